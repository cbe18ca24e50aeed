import PyProof.Rows.All
import Wide.All
import OpenK.AllK
import Wide.FinOn
import PySem.Challenge.RW_dm0232_05
open PySem PySem.W PyProof.Rows
set_option Elab.async false
set_option maxRecDepth 100000
set_option maxHeartbeats 8000000
namespace Mine
open_top hd05 for PySem.Challenge.rw_dm0232_05
theorem top_off : True := by w_top off; trivial
end Mine
section
open PySem PySem.W PyProof.Rows PySem.Calls
set_option Elab.async false
namespace Mine
theorem upd_split {d : Addr} {o : Obj} {news : List (Addr × Obj)} {upd : Obj → List (Addr × Obj)} (U : UpdF d o news upd) :
    ∃ rest, OwnOff rest [d] ∧ (∀ q, q ∈ news ↔ q = (d, o) ∨ q ∈ rest) ∧ (∀ o' q, q ∈ upd o' ↔ q = (d, o') ∨ q ∈ rest) := by
  obtain ⟨pre, post, rfl, hu, h1, h2⟩ := U.split
  refine ⟨pre ++ post, fun q hq b hb => by rw [List.mem_singleton.mp hb]; exact (List.mem_append.mp hq).elim (h1 q) (h2 q), fun q => ?_, fun o' q => ?_⟩
  · simp only [List.mem_append, List.mem_cons]; constructor <;> (intro h; rcases h with h | h | h <;> simp [h])
  · rw [hu]; simp only [List.mem_append, List.mem_cons]; constructor <;> (intro h; rcases h with h | h | h <;> simp [h])
theorem news_sub {h₀ : Heap} {L : Addr} {h : Heap} {l l' : List (Addr × Obj)} (N : News h₀ L h l) (hs : ∀ p ∈ l', p ∈ l) : News h₀ L h l' := fun p hp => N p (hs p hp)

theorem off_lt {d : Nat} {rest : List (Addr × Obj)} {as : List Addr} (h : AllLt d rest) (hd : ∀ a ∈ as, d ≤ a) : OwnOff rest as :=
  fun q hq a ha => Nat.ne_of_lt (Nat.lt_of_lt_of_le (kst_ltOf h q hq) (hd a ha))
abbrev SD (P : Params) (k1 k2 : Tok) (r : Addr) (p : Int) (tp : Tok) : Obj :=
  dictOf [⟨PyData.keyHash P (Str.ofString "value"), .str (Str.ofString "value") k1, .int p tp⟩, ⟨PyData.keyHash P (Str.ofString "read"), .str (Str.ofString "read") k2, .ref r⟩] 2
/-- n octets from place q on -/
def cutB (b : Array UInt8) (q n : Nat) : Array UInt8 := ((b.toList.drop q).take n).toArray
/-- what a call of the stream's own read does -/
def ReadOk (prog : Program) (w : World) (K : Frag) (p : Program) (loose : List Str) (mean : ExcName → Option Value) (mg mb : Str → Option Value) (dx r : Addr) (k1 k2 : Tok) (b : Array UInt8) (I : List (Addr × Obj)) : Prop :=
  ∀ {dp un : Nat} {gd : Option (List Code)} {cn : Str} {cs : Scope} {a : Addr} {ccd : Value} {outer : List Env} {A₀ : Around} {base h₀ : Heap} {L : Addr} {m : Str → Option Value} {news : List (Addr × Obj)} {upd : Obj → List (Addr × Obj)} {s : Shared}
    {q n : Nat} {tq tn : Tok} {Q E : Value → Shared → Prop},
    Below A₀ base outer h₀ → Fr h₀ L s.heap m → K.In h₀ → News h₀ L s.heap news → Top p loose mean mg mb h₀ → cs.kind = .function → dp + 5 < recursionLimit → un + 40 < cLine →
    (∀ e ∈ I, e ∈ news) → UpdF dx (SD w.params k1 k2 r (q : Int) tq) news upd → q ≤ b.size → b.size ≤ 1048576 → n ≤ 1048576 →
    (∀ h' tk t1 t2, Fr h₀ L h' m → News h₀ L h' (upd (SD w.params k1 k2 r ((q + (cutB b q n).size : Nat) : Int) t1)) → Q (.bytes (cutB b q n) t2) { s with heap := h', toks := tk }) →
    wpAny (model prog w) (ktrTop dp un gd cn cs L a ccd [] outer) (call (.ref r) [.int (n : Int) tn]) Q E s
/-- neither a dict nor a list, tuple -/
def Kin (o : Obj) : Prop := (∀ es n, o.data ≠ .dict es n) ∧ ∀ vs n, o.data ≠ .seq vs n
theorem kin_func {o : Obj} {fd : FuncData} (h : o.data = .func fd) : Kin o := ⟨(fun _ _ e => by rw [h] at e; cases e), fun _ _ e => by rw [h] at e; cases e⟩
theorem kin_fields {o : Obj} {vs : Array Value} (h : o.data = .fields vs) : Kin o := ⟨(fun _ _ e => by rw [h] at e; cases e), fun _ _ e => by rw [h] at e; cases e⟩
theorem kin_plain {o : Obj} (h : o.data = .plain) : Kin o := ⟨(fun _ _ e => by rw [h] at e; cases e), fun _ _ e => by rw [h] at e; cases e⟩
theorem kin_cell {o : Obj} {v : Option Value} (h : o.data = .cell v) : Kin o := ⟨(fun _ _ e => by rw [h] at e; cases e), fun _ _ e => by rw [h] at e; cases e⟩
def KinL (l : List (Addr × Obj)) : Prop := ∀ e ∈ l, Kin e.2
theorem KinL.app {l l' : List (Addr × Obj)} (h : KinL l) (h' : KinL l') : KinL (l ++ l') := fun e he => (List.mem_append.mp he).elim (h e) (h' e)
theorem kin_offD {h₀ h : Heap} {L d : Addr} {R X : List (Addr × Obj)} {o : Obj} {es : Array DictEntry} {n : Nat} (N : News h₀ L h X) (hR : KinL R) (hs : ∀ e ∈ R, e ∈ X) (hm : (d, o) ∈ X) (ho : o.data = .dict es n) : OwnOff R [d] := fun q hq a ha e => by
  rw [List.mem_singleton.mp ha] at e
  have h1 := (N q (hs q hq)).1
  have h2 := (N _ hm).1
  rw [e] at h1
  have h3 : q.2 = o := Option.some.inj (h1.symm.trans h2)
  exact (hR q hq).1 es n (by rw [h3]; exact ho)
theorem kin_offS {h₀ h : Heap} {L d : Addr} {R X : List (Addr × Obj)} {o : Obj} {es : Array Value} {n : Nat} (N : News h₀ L h X) (hR : KinL R) (hs : ∀ e ∈ R, e ∈ X) (hm : (d, o) ∈ X) (ho : o.data = .seq es n) : OwnOff R [d] := fun q hq a ha e => by
  rw [List.mem_singleton.mp ha] at e
  have h1 := (N q (hs q hq)).1
  have h2 := (N _ hm).1
  rw [e] at h1
  have h3 : q.2 = o := Option.some.inj (h1.symm.trans h2)
  exact (hR q hq).2 es n (by rw [h3]; exact ho)
theorem off_cons {R : List (Addr × Obj)} {a : Addr} {as : List Addr} (h : OwnOff R [a]) (h' : OwnOff R as) : OwnOff R (a :: as) := fun q hq b hb =>
  (List.mem_cons.mp hb).elim (fun e => by rw [e]; exact h q hq a (List.mem_singleton.mpr rfl)) (h' q hq b)
/-- a stream: f bears the dict dx, whose read is r; the octets are b; what else belongs to it is I -/
structure Strm (prog : Program) (w : World) (K : Frag) (p : Program) (loose : List Str) (mean : ExcName → Option Value) (mg mb : Str → Option Value) (C f dx r : Addr) (k1 k2 : Tok) (b : Array UInt8) (I : List (Addr × Obj)) : Prop where
  inst : (f, instObj C dx) ∈ I
  fn : ∃ oc od fd sl, (r, (⟨oc, od, .func fd, sl⟩ : Obj)) ∈ I
  off : OwnOff I [dx]
  kin : KinL I
  read : ReadOk prog w K p loose mean mg mb dx r k1 k2 b I
/-- the table of the codes made within a code: none as yet, or the one of the stream's read -/
inductive Tab (P : Addr) (i j : Value) (qual : Str) : List (Addr × Obj) → Prop where
  | none : Tab P i j qual [(P, tabObj #[])]
  | some {c : Addr} {oc : Obj} {vs : Array Value} {t : Tok} : c ≠ P → oc.data = .fields vs → vs[1]? = some (.str qual t) → Tab P i j qual [(P, tabObj #[i, j, .ref c]), (c, oc)]
theorem off_one {l : List (Addr × Obj)} {d : Addr} (h : ∀ q ∈ l, q.1 ≠ d) : OwnOff l [d] := fun q hq a ha => by rw [List.mem_singleton.mp ha]; exact h q hq
theorem fin_none {h₀ h : Heap} {L f c x d l2 l1 P : Addr} {fo oc io sd o1 o2 tb : Obj} {rest : List (Addr × Obj)}
    (N : News h₀ L h ((f, fo) :: (c, oc) :: (x, io) :: (d, sd) :: (l2, o1) :: (l1, o2) :: (P, tb) :: rest)) :
    News h₀ L h ((d, sd) :: ([(f, fo), (c, oc), (x, io), (l2, o1), (l1, o2)] ++ ([(P, tb), (c, oc)] ++ rest))) :=
  news_sub N fun q hq => by
    simp only [List.mem_cons, List.mem_append, List.not_mem_nil, or_false] at hq ⊢
    rcases hq with h | (h | h | h | h | h) | (h | h) | h <;> simp [h]
theorem fin_some {h₀ h : Heap} {L f c x d l2 l1 P : Addr} {fo oc io sd o1 o2 tb : Obj} {rest : List (Addr × Obj)}
    (N : News h₀ L h ((f, fo) :: (x, io) :: (d, sd) :: (l2, o1) :: (l1, o2) :: (P, tb) :: (c, oc) :: rest)) :
    News h₀ L h ((d, sd) :: ([(f, fo), (c, oc), (x, io), (l2, o1), (l1, o2)] ++ ([(P, tb), (c, oc)] ++ rest))) :=
  news_sub N fun q hq => by
    simp only [List.mem_cons, List.mem_append, List.not_mem_nil, or_false] at hq ⊢
    rcases hq with h | (h | h | h | h | h) | (h | h) | h <;> simp [h]
theorem mem_rest {I news rest : List (Addr × Obj)} {d : Addr} {o : Obj} (hI : ∀ e ∈ I, e ∈ news) (ho : OwnOff I [d]) (hn : ∀ q, q ∈ news ↔ q = (d, o) ∨ q ∈ rest) : ∀ e ∈ I, e ∈ rest := fun e he =>
  ((hn e).mp (hI e he)).elim (fun q => absurd (congrArg Prod.fst q) (ho e he d (List.mem_singleton.mpr rfl))) id
theorem strm_mk {prog : Program} {w : World} {K : Frag} {p : Program} {loose : List Str} {mean : ExcName → Option Value} {mg mb : Str → Option Value} {C f dx r : Addr} {k1 k2 : Tok} {b : Array UInt8} {I : List (Addr × Obj)}
    (h1 : (f, instObj C dx) ∈ I) (h2 : ∃ oc od fd sl, (r, (⟨oc, od, .func fd, sl⟩ : Obj)) ∈ I) (h3 : OwnOff I [dx]) (hkin : KinL I) (h4 : OwnOff I [dx] → ReadOk prog w K p loose mean mg mb dx r k1 k2 b I) :
    Strm prog w K p loose mean mg mb C f dx r k1 k2 b I := ⟨h1, h2, h3, hkin, h4 h3⟩
theorem cutB_size (b : Array UInt8) (q n : Nat) : (cutB b q n).size = min n (b.size - q) := by
  simp [cutB]
theorem picked_cut {b : Array UInt8} {q n : Nat} (hq : q ≤ b.size) : KBy.picked b (some (q : Int)) (some ((q : Int) + (n : Int))) = cutB b q n := by
  have e : ((q : Int) + (n : Int)) = ((q + n : Nat) : Int) := by omega
  rw [KBc.picked_eq, e]
  simp only [Option.elim, clipAt_nat]
  unfold cutB
  rw [Nat.min_eq_left hq]
  congr 1
  have hl : (b.toList.drop q).length = b.size - q := by simp
  by_cases h : q + n ≤ b.size
  · rw [Nat.min_eq_left h, Nat.add_sub_cancel_left]
  · rw [Nat.min_eq_right (by omega), List.take_of_length_le (by omega), List.take_of_length_le (by omega)]
theorem read_place {b : Array UInt8} {q n l : Nat} (hq : q ≤ b.size) (hl : l = b.size) :
    (q : Int) + ((min (clipAt l ((q : Int) + (n : Int)) - min q l) (l - min q l) : Nat) : Int) = ((q + (cutB b q n).size : Nat) : Int) := by
  have e : ((q : Int) + (n : Int)) = ((q + n : Nat) : Int) := by omega
  rw [cutB_size, e, clipAt_nat, hl]
  omega
theorem read_fin {h₀ h : Heap} {L d : Addr} {P : Params} {k1 k2 : Tok} {r : Addr} {v v' : Int} {t : Tok} {rest : List (Addr × Obj)} {upd : Obj → List (Addr × Obj)}
    (N : News h₀ L h ((d, SD P k1 k2 r v t) :: rest)) (hv : v = v') (hup : ∀ o' q, q ∈ upd o' ↔ q = (d, o') ∨ q ∈ rest) : News h₀ L h (upd (SD P k1 k2 r v' t)) := by
  subst hv
  exact news_sub N fun q hq => List.mem_cons.mpr ((hup _ q).mp hq)
def Sub (I R : List (Addr × Obj)) : Prop := ∀ e ∈ I, e ∈ R
theorem Sub.cons {I R : List (Addr × Obj)} {q : Addr × Obj} (h : Sub I R) : Sub I (q :: R) := fun e he => List.mem_cons_of_mem _ (h e he)
/-- the octet at a place, a number -/
def oct (b : Array UInt8) (q : Nat) : Nat := (b.toList.getD q 0).toNat
theorem oct_lt (b : Array UInt8) (q : Nat) : oct b q < 256 := UInt8.toNat_lt _
theorem ints_cut1 {b : Array UInt8} {q : Nat} (h : q < b.size) : KBw.bInts (cutB b q 1) = [(oct b q : Int)] := by
  have h' : q < b.toList.length := by simpa using h
  unfold cutB
  rw [List.drop_eq_getElem_cons h', List.take_succ_cons, List.take_zero]
  simp [KBw.bInts, List.getD, h, oct]
theorem ints_cut0 {b : Array UInt8} {n : Nat} : KBw.bInts (cutB b b.size n) = [] := by
  unfold cutB
  rw [List.drop_of_length_le (by simp)]
  simp [KBw.bInts]
theorem cut1_size {b : Array UInt8} {q : Nat} (h : q < b.size) : (cutB b q 1).size = 1 := by rw [cutB_size]; omega
theorem cut0_size {b : Array UInt8} {n : Nat} : (cutB b b.size n).size = 0 := by rw [cutB_size]; omega
theorem raised_sub {base G : Heap} {l : List Env} {e : Addr} {cls : Value} {t : Addr} {vs : List Value} {news news' : List (Addr × Obj)} {h : Heap} (R : RaisedS base G l e cls t vs news h) (hs : ∀ q ∈ news', q ∈ news) : RaisedS base G l e cls t vs news' h := by
  obtain ⟨⟨B, h1, h2, h3, h4⟩, h5⟩ := R
  exact ⟨⟨B, h1, h2, fun q hq => h3 q (hs q hq), h4⟩, h5⟩
theorem strm_read {prog : Program} {w : World} {K : Frag} {p : Program} {loose : List Str} {mean : ExcName → Option Value} {mg mb : Str → Option Value} {C f dx r : Addr} {k1 k2 : Tok} {b : Array UInt8} {I : List (Addr × Obj)}
    {dp un : Nat} {gd : Option (List Code)} {cn : Str} {cs : Scope} {a : Addr} {ccd : Value} {outer : List Env} {A₀ : Around} {base h₀ : Heap} {L : Addr} {m : Str → Option Value} {news : List (Addr × Obj)} {upd : Obj → List (Addr × Obj)} {s : Shared}
    {q : Nat} {v : Int} {tq tn : Tok} {Q E : Value → Shared → Prop} (n : Nat) (hv : v = (n : Int))
    (S : Strm prog w K p loose mean mg mb C f dx r k1 k2 b I) (B : Below A₀ base outer h₀) (F : Fr h₀ L s.heap m) (X : K.In h₀) (N : News h₀ L s.heap news) (T : Top p loose mean mg mb h₀) (hk : cs.kind = .function) (hd : dp + 5 < recursionLimit) (hu : un + 40 < cLine)
    (hI : Sub I news) (U : UpdF dx (SD w.params k1 k2 r (q : Int) tq) news upd) (hq : q ≤ b.size) (hb : b.size ≤ 1048576) (hn : n ≤ 1048576)
    (h : ∀ h' tk t1 t2, Fr h₀ L h' m → News h₀ L h' (upd (SD w.params k1 k2 r ((q + (cutB b q n).size : Nat) : Int) t1)) → Q (.bytes (cutB b q n) t2) { s with heap := h', toks := tk }) :
    wpAny (model prog w) (ktrTop dp un gd cn cs L a ccd [] outer) (call (.ref r) [.int v tn]) Q E s := by
  subst hv
  exact S.read B F X N T hk hd hu hI U hq hb hn h
theorem raise_fin {base G : Heap} {l : List Env} {e : Addr} {cls : Value} {t : Addr} {vs : List Value} {h : Heap} {d : Addr} {P : Params} {k1 k2 : Tok} {r : Addr} {v v' : Int} {tt : Tok} {rest : List (Addr × Obj)} {upd : Obj → List (Addr × Obj)}
    (R : RaisedS base G l e cls t vs ((d, SD P k1 k2 r v tt) :: rest) h) (hv : v = v') (hup : ∀ o' q, q ∈ upd o' ↔ q = (d, o') ∨ q ∈ rest) : RaisedS base G l e cls t vs (upd (SD P k1 k2 r v' tt)) h := by
  subst hv
  exact raised_sub R fun q hq => List.mem_cons.mpr ((hup _ q).mp hq)
abbrev msg0 : Str := Str.ofString "not enough data in stream to read uint1"
abbrev msgB (n k : Int) : Str := Str.ofString "expected " ++ Str.ofString (toString n) ++ Str.ofString " bytes in a bytes1, but only " ++ Str.ofString (toString k) ++ Str.ofString " remain"
abbrev msgS (n k : Int) : Str := Str.ofString "expected " ++ Str.ofString (toString n) ++ Str.ofString " bytes in a string1, but only " ++ Str.ofString (toString k) ++ Str.ofString " remain"
theorem raise_fin2 {base G : Heap} {l : List Env} {e : Addr} {cls : Value} {t : Addr} {vs vs' : List Value} {h : Heap} {d : Addr} {P : Params} {k1 k2 : Tok} {r : Addr} {v v' : Int} {tt : Tok} {x : Addr × Obj} {rest : List (Addr × Obj)} {upd : Obj → List (Addr × Obj)}
    (R : RaisedS base G l e cls t vs (x :: (d, SD P k1 k2 r v tt) :: rest) h) (hv : v = v') (hvs : vs = vs') (hup : ∀ o' q, q ∈ upd o' ↔ q = (d, o') ∨ q ∈ rest) : RaisedS base G l e cls t vs' (upd (SD P k1 k2 r v' tt)) h := by
  subst hv hvs
  exact raised_sub R fun q hq => List.mem_cons_of_mem _ (List.mem_cons.mpr ((hup _ q).mp hq))
theorem news_x2 {h₀ h : Heap} {L d tp : Addr} {o o' : Obj} {P : Params} {k1 k2 : Tok} {r : Addr} {v v' : Int} {t : Tok} {rest : List (Addr × Obj)} {upd : Obj → List (Addr × Obj)}
    (N : News h₀ L h ((tp, o) :: (d, SD P k1 k2 r v t) :: rest)) (hv : v = v') (ho : o = o') (hup : ∀ o' q, q ∈ upd o' ↔ q = (d, o') ∨ q ∈ rest) : News h₀ L h ((tp, o') :: upd (SD P k1 k2 r v' t)) := by
  subst hv ho
  refine news_sub N fun q hq => ?_
  rcases List.mem_cons.mp hq with h | h
  · exact List.mem_cons.mpr (.inl h)
  · exact List.mem_cons_of_mem _ (List.mem_cons.mpr ((hup _ q).mp h))
theorem lt_all {d tp : Nat} {o : Obj} {news rest : List (Addr × Obj)} (h : d < tp ∧ AllLt tp rest) (hn : ∀ q, q ∈ news ↔ q = (d, o) ∨ q ∈ rest) : ∀ q ∈ news, q.1 < tp := fun q hq => by
  rcases (hn q).mp hq with rfl | hq
  · exact h.1
  · exact kst_ltOf h.2 q hq
theorem Tab.kin {P : Addr} {i j : Value} {qual : Str} {T : List (Addr × Obj)} (h : Tab P i j qual T) : KinL T := by
  cases h with
  | none => exact fun e he => by rw [List.mem_singleton.mp he]; exact kin_fields rfl
  | some _ hd _ =>
    intro e he
    simp only [List.mem_cons, List.not_mem_nil, or_false] at he
    rcases he with rfl | rfl
    · exact kin_fields rfl
    · exact kin_fields hd
theorem Tab.mem {P : Addr} {i j : Value} {qual : Str} {T : List (Addr × Obj)} (h : Tab P i j qual T) : ∃ ps, (P, tabObj ps) ∈ T := by
  cases h with
  | none => exact ⟨_, .head _⟩
  | some _ _ _ => exact ⟨_, .head _⟩
end Mine
end
section
open PySem PySem.W PyProof.Rows PySem.Calls
set_option Elab.async false
set_option maxRecDepth 100000
set_option maxHeartbeats 8000000
namespace Mine
theorem fmtB {n k : Int} {u v t : Tok} {b : Addr} (hn : 0 ≤ n) (hn' : n < 1000000) (hk : 0 ≤ k) (hk' : k < 1000000) :
    Meets (Builtin.«str.__mod__» ⟨[.str (Str.mk #[101, 120, 112, 101, 99, 116, 101, 100, 32, 37, 100, 32, 98, 121, 116, 101, 115, 32, 105, 110, 32, 97, 32, 98, 121, 116, 101, 115, 49, 44, 32, 98, 117, 116, 32, 111, 110, 108, 121, 32, 37, 100, 32, 114, 101, 109, 97, 105, 110]) t, .ref b], []⟩) (fun _ R s => IsTup s.heap b #[.int n u, .int k v] ∧ ∀ t' j, R (.ok (.ret (.str (msgB n k) t'))) { s with toks := j }) := by
  kpt_run
theorem modB {prog : Program} {w : World} {A : Around} {E : Value → Shared → Prop} {s : Shared} {t u v : Tok} {Q : Value → Shared → Prop} {b L : Addr} {j : Nat} {h₀ : Heap} {news : List (Addr × Obj)} {n k : Int}
    (N : News h₀ L s.heap news) (hb : (b, ({ cls := .type "tuple", data := .seq #[.int n u, .int k v] j } : Obj)) ∈ news) (hn : 0 ≤ n) (hn' : n < 1000000) (hk : 0 ≤ k) (hk' : k < 1000000)
    (h : ∀ t' j, Q (.str (msgB n k) t') { s with toks := j }) : wpAny (model prog w) A (binaryOp .Mod (.str (Str.ofString "expected %d bytes in a bytes1, but only %d remain") t) (.ref b)) Q E s :=
  KPt.mod_tuple N hb (by decide +kernel) (fmtB hn hn' hk hk') h
theorem fmtS {n k : Int} {u v t : Tok} {b : Addr} (hn : 0 ≤ n) (hn' : n < 1000000) (hk : 0 ≤ k) (hk' : k < 1000000) :
    Meets (Builtin.«str.__mod__» ⟨[.str (Str.mk #[101, 120, 112, 101, 99, 116, 101, 100, 32, 37, 100, 32, 98, 121, 116, 101, 115, 32, 105, 110, 32, 97, 32, 115, 116, 114, 105, 110, 103, 49, 44, 32, 98, 117, 116, 32, 111, 110, 108, 121, 32, 37, 100, 32, 114, 101, 109, 97, 105, 110]) t, .ref b], []⟩) (fun _ R s => IsTup s.heap b #[.int n u, .int k v] ∧ ∀ t' j, R (.ok (.ret (.str (msgS n k) t'))) { s with toks := j }) := by
  kpt_run
theorem modS {prog : Program} {w : World} {A : Around} {E : Value → Shared → Prop} {s : Shared} {t u v : Tok} {Q : Value → Shared → Prop} {b L : Addr} {j : Nat} {h₀ : Heap} {news : List (Addr × Obj)} {n k : Int}
    (N : News h₀ L s.heap news) (hb : (b, ({ cls := .type "tuple", data := .seq #[.int n u, .int k v] j } : Obj)) ∈ news) (hn : 0 ≤ n) (hn' : n < 1000000) (hk : 0 ≤ k) (hk' : k < 1000000)
    (h : ∀ t' j, Q (.str (msgS n k) t') { s with toks := j }) : wpAny (model prog w) A (binaryOp .Mod (.str (Str.ofString "expected %d bytes in a string1, but only %d remain") t) (.ref b)) Q E s :=
  KPt.mod_tuple N hb (by decide +kernel) (fmtS hn hn' hk hk') h
end Mine
end
section
open PySem PySem.W PyProof.Rows PySem.Calls PySem.Spec
set_option Elab.async false
namespace Mine
/-- all that is known of a frame whose ground may have turned (the slots of the frames above) -/
structure XSt (K : Frag) (A₀ : Around) (base : Heap) (outer : List Env) (p : Program) (loose : List Str) (mean : ExcName → Option Value) (mg mb : Str → Option Value) (g₀ : Heap) (L : Addr) (g h : Heap) (m : Str → Option Value) (news : List (Addr × Obj)) : Prop where
  turn : KtsTurn (outer.filterMap (·.frame)) g₀ g
  fr : Fr g L h m
  nw : News g L h news
  bl : Below A₀ base outer g
  kin : K.In g
  top : Top p loose mean mg mb g
  dicts : KtsDicts (outer.filterMap (·.frame)) g

def EndX (K : Frag) (A₀ : Around) (base : Heap) (outer : List Env) (p : Program) (loose : List Str) (mean : ExcName → Option Value) (mg mb : Str → Option Value) (g₀ : Heap) (L : Addr) (J : (Str → Option Value) → List (Addr × Obj) → Prop) (own : List (Addr × Obj)) (adr : List Addr) (s s₂ : Shared) : Prop :=
  ∃ g h' tk m' news' nx, s₂ = { s with heap := h', toks := tk } ∧ XSt K A₀ base outer p loose mean mg mb g₀ L g h' m' news' ∧ (∀ q ∈ nx, q ∈ news') ∧ (∀ q ∈ own, q ∈ news') ∧ nx.map (·.1) = adr ∧ J m' nx
def PostX (K : Frag) (A₀ : Around) (base : Heap) (outer : List Env) (p : Program) (loose : List Str) (mean : ExcName → Option Value) (mg mb : Str → Option Value) (g₀ : Heap) (L : Addr) (J : (Str → Option Value) → List (Addr × Obj) → Prop) (own : List (Addr × Obj)) (adr : List Addr) (Q : Flow → Shared → Prop) (s : Shared) (f : Flow) (s₂ : Shared) : Prop :=
  match f with
  | .ret v => Q (.ret v) s₂
  | .brk => Q .next s₂
  | _ => EndX K A₀ base outer p loose mean mg mb g₀ L J own adr s s₂
section
variable {K : Frag} {A₀ : Around} {base : Heap} {outer : List Env} {p : Program} {loose : List Str} {mean : ExcName → Option Value} {mg mb : Str → Option Value} {g₀ : Heap}
theorem EndX.intro {L : Addr} {J : (Str → Option Value) → List (Addr × Obj) → Prop} {own : List (Addr × Obj)} {adr : List Addr} {s : Shared} {g h' : Heap} {tk : Nat} {m' : Str → Option Value} {news' nx : List (Addr × Obj)}
    (T : KtsTurn (outer.filterMap (·.frame)) g₀ g) (F : Fr g L h' m') (N : News g L h' news') (B : Below A₀ base outer g) (X : K.In g) (P : Top p loose mean mg mb g) (D : KtsDicts (outer.filterMap (·.frame)) g)
    (hj : J m' nx) (ha : nx.map (·.1) = adr) (hn : ∀ q ∈ nx, q ∈ news') (ho : ∀ q ∈ own, q ∈ news') : EndX K A₀ base outer p loose mean mg mb g₀ L J own adr s { s with heap := h', toks := tk } :=
  ⟨g, h', tk, m', news', nx, rfl, ⟨T, F, N, B, X, P, D⟩, hn, ho, ha, hj⟩

theorem loopX {prog : Program} {w : World} {A : Around} {s : Shared} {env : Env} {R : Result → Shared → Prop} {x : Str} {px : Pos} {body : List Stmt} {I : Addr} {n : Nat} {P : Nat → Value → Prop} {St : Nat → Heap → Prop} {m₀ : Str → Option Value} {news : List (Addr × Obj)} {g : Heap}
    (J : Nat → (Str → Option Value) → List (Addr × Obj) → Prop) (Q : Flow → Shared → Prop) (E : Value → Shared → Prop)
    (W : Walks prog w A I [I] [I] n P St) (hx : env.kindOf x = some .local)
    (hp : (env.scope.kind == .class || (env.scope.kind == .module && env.locals != env.globals)) = false)
    (hLI : env.locals ≠ I) (hgI : g₀.get? I = none) (hnI : ∀ q ∈ news, q.1 ≠ I)
    (hst : St 0 s.heap) (X₀ : XSt K A₀ base outer p loose mean mg mb g₀ env.locals g s.heap m₀ news) (hj : J 0 m₀ news)
    (hE : ∀ e s', E e s' → notedBy (model prog w) A env (fun e s' => R (.error e) s') e s')
    (hQ : ∀ f s', Q f s' → R (.ok f) s')
    (turn : ∀ i v g m₁ news₁ h tk own, i < n → P i v → news₁.map (·.1) = news.map (·.1) → OwnOff own (news.map (·.1)) → J i m₁ news₁ →
      XSt K A₀ base outer p loose mean mg mb g₀ env.locals g h (fun y => if y = x then some v else m₁ y) (news₁ ++ own) →
      wpAny (model prog w) A (execs body env) (PostX K A₀ base outer p loose mean mg mb g₀ env.locals (J (i + 1)) own (news.map (·.1)) Q s) E { s with heap := h, toks := tk })
    (done : ∀ g m₁ news₁ h tk, J n m₁ news₁ → XSt K A₀ base outer p loose mean mg mb g₀ env.locals g h m₁ news₁ → Q .next { s with heap := h, toks := tk }) :
    codeAny (model prog w) A (.forLoop (.Name x px) (.ref I) body [] env) R s := by
  refine codeAny_forLoop
    (fun k s' => ∃ h' tk g m' news' i, s' = { s with heap := h', toks := tk } ∧ St i h' ∧ XSt K A₀ base outer p loose mean mg mb g₀ env.locals g h' m' news' ∧ news'.map (·.1) = news.map (·.1) ∧ J i m' news' ∧ i ≤ n ∧ k = n + 1 - i) ?_ (n + 1)
    ⟨s.heap, s.toks, g, m₀, news, 0, rfl, hst, X₀, rfl, hj, Nat.zero_le _, rfl⟩
  rintro k s' ⟨h', tk, g, m', news', i, rfl, hst', X', ha', hJ, hi, rfl⟩
  have nI : ∀ q ∈ news', q.1 ≠ I := fun q hq e => by
    have h1 : q.1 ∈ news'.map (·.1) := List.mem_map.mpr ⟨q, hq, rfl⟩
    rw [ha'] at h1
    obtain ⟨q', hq', e'⟩ := List.mem_map.mp h1
    exact hnI q' hq' (e'.trans e)
  have gI : g.get? I = none := X'.turn.none_ _ hgI
  have next : ∀ h₁ : Heap, (∀ b o, b ∉ [I] → h'.get? b = some o → h₁.get? b = some o) → XSt K A₀ base outer p loose mean mg mb g₀ env.locals g h₁ m' news' := fun h₁ hk₁ =>
    ⟨X'.turn, ⟨X'.fr.ns.at' fun o e => hk₁ _ o (by simpa using hLI) e, fun b o e => hk₁ b o (fun hb => by rw [List.mem_singleton.mp hb, gI] at e; cases e) (X'.fr.keep b o e), X'.fr.above⟩,
      fun q hq => ⟨hk₁ _ _ (by simpa using nI q hq) (X'.nw q hq).1, (X'.nw q hq).2⟩, X'.bl, X'.kin, X'.top, X'.dicts⟩
  by_cases hlt : i < n
  · refine W.item i _ _ _ hlt hst' fun v h₁ tk₁ hP hst₁ hk₁ => ?_
    have X₁ := next h₁ hk₁
    refine wpAny_assign_Name (wpAny_storeName_local hx X₁.fr.ns (fun h₂ hn₂ hs₂ => ?_) hp)
    have F₂ := X₁.fr.set hn₂ hs₂
    have N₂ := X₁.nw.set hs₂
    have hst₂ : St (i + 1) h₂ := W.frame _ _ _ hst₁ fun b hb o e => (hs₂.2 b fun q => hLI (by rw [List.mem_singleton.mp hb] at q; exact q.symm)).trans e
    have own : ∃ own : List (Addr × Obj), News g env.locals h₂ own ∧ OwnOff own (news.map (·.1)) ∧ (∀ o, h₂.get? I = some o → (I, o) ∈ own) := by
      cases ho : h₂.get? I with
      | none => exact ⟨[], News.nil, fun _ hq => (nomatch hq), fun o e => nomatch e⟩
      | some o =>
        refine ⟨[(I, o)], fun q hq => ?_, fun q hq b hb => ?_, fun o' e => ?_⟩
        · rw [List.mem_singleton.mp hq]; exact ⟨ho, hLI.symm, gI⟩
        · rw [List.mem_singleton.mp hq]
          obtain ⟨q', hq', e'⟩ := List.mem_map.mp hb
          exact fun e => hnI q' hq' (e'.trans e.symm)
        · cases e; exact List.mem_singleton.mpr rfl
    obtain ⟨own, No, hoff, hown⟩ := own
    have N₃ : News g env.locals h₂ (news' ++ own) := fun q hq => (List.mem_append.mp hq).elim (N₂ q) (No q)
    refine wpAny_mono (turn i v g m' news' h₂ _ own hlt hP ha' hoff hJ ⟨X₁.turn, F₂, N₃, X₁.bl, X₁.kin, X₁.top, X₁.dicts⟩) (fun f s₃ h₃ => ?_) fun e s' h' => hE e s' h'
    have fin : EndX K A₀ base outer p loose mean mg mb g₀ env.locals (J (i + 1)) own (news.map (·.1)) s s₃ → ∃ m, m < n + 1 - i ∧ ∃ h' tk g m' news' i', s₃ = { s with heap := h', toks := tk } ∧ St i' h' ∧ XSt K A₀ base outer p loose mean mg mb g₀ env.locals g h' m' news' ∧ news'.map (·.1) = news.map (·.1) ∧ J i' m' news' ∧ i' ≤ n ∧ m = n + 1 - i' := by
      rintro ⟨g₃, h₃', tk₃, m₃, news₃, nx, rfl, X₃, hsub, hso, hadr, hJ₃⟩
      have keepI : ∀ o, h₂.get? I = some o → h₃'.get? I = some o := fun o e => (X₃.nw _ (hso _ (hown o e))).1
      refine ⟨n + 1 - (i + 1), by omega, h₃', tk₃, g₃, m₃, nx, i + 1, rfl, ?_, ⟨X₃.turn, X₃.fr, fun q hq => X₃.nw q (hsub q hq), X₃.bl, X₃.kin, X₃.top, X₃.dicts⟩, hadr, hJ₃, hlt, rfl⟩
      exact W.frame _ _ _ hst₂ fun b hb o e => by rw [List.mem_singleton.mp hb] at e ⊢; exact keepI o e
    cases f with
    | ret v => exact hQ _ _ h₃
    | brk => exact hQ _ _ h₃
    | next => exact fin h₃
    | cont => exact fin h₃
  · have hin : i = n := by omega
    subst hin
    refine W.done _ _ _ hst' fun h₁ tk₁ hk₁ => wpAny_execs_nil ?_
    exact hQ _ _ (done g m' news' h₁ tk₁ hJ (next h₁ hk₁))

theorem iterX_range {prog : Program} {w : World} {A : Around} {s : Shared} {env : Env} {x : Str} {px : Pos} {body : List Stmt} {r : Addr} {a₀ b₀ : Int} {t₀ u₀ v₀ : Tok} {n : Nat} {m₀ : Str → Option Value} {news : List (Addr × Obj)} {g : Heap} {Q : Flow → Shared → Prop} {E : Value → Shared → Prop}
    (J : Nat → (Str → Option Value) → List (Addr × Obj) → Prop)
    (hh : A.handled = none) (hr : IsRange s.heap r a₀ b₀ 1 t₀ u₀ v₀) (hsmall : Builtin.Range.small a₀ b₀ 1 = true) (hn : Builtin.Range.rangeSize a₀ b₀ 1 = (n : Int)) (hx : env.kindOf x = some .local)
    (hp : (env.scope.kind == .class || (env.scope.kind == .module && env.locals != env.globals)) = false)
    (X₀ : XSt K A₀ base outer p loose mean mg mb g₀ env.locals g s.heap m₀ news) (hj : J 0 m₀ news)
    (hE : PassesOwn (model prog w) A env E)
    (turn : ∀ i t g m₁ news₁ h tk own, i < n → news₁.map (·.1) = news.map (·.1) → OwnOff own (news.map (·.1)) → J i m₁ news₁ →
      XSt K A₀ base outer p loose mean mg mb g₀ env.locals g h (fun y => if y = x then some (.int (a₀ + (i : Nat)) t) else m₁ y) (news₁ ++ own) →
      wpAny (model prog w) A (execs body env) (PostX K A₀ base outer p loose mean mg mb g₀ env.locals (J (i + 1)) own (news.map (·.1)) Q s) E { s with heap := h, toks := tk })
    (done : ∀ g m₁ news₁ h tk, J n m₁ news₁ → XSt K A₀ base outer p loose mean mg mb g₀ env.locals g h m₁ news₁ → Q .next { s with heap := h, toks := tk }) :
    wpAny (model prog w) A (pyIter (.ref r)) (fun it s₂ => codeAny (model prog w) A (.forLoop (.Name x px) it body [] env) (fun r s' => match r with | .ok f => Q f s' | .error e => cameBackBy (model prog w) A env E e s') s₂) E s := by
  refine wpAny_pyIter_range hr hsmall ?_
  have W : Walks prog w A s.heap.objs.size [s.heap.objs.size] [s.heap.objs.size] n (fun i v => i < n ∧ ∃ t, v = .int (a₀ + i * 1) t)
      (fun i h => IsRangeIter h s.heap.objs.size (a₀ + (i : Nat) * 1) ((n : Int) - (i : Nat)) 1) := (Walks.range hh _ a₀ 1 n).bound
  have gN : g₀.get? s.heap.objs.size = none := by
    cases q : g₀.get? s.heap.objs.size with
    | none => rfl
    | some o =>
      obtain ⟨sl, hs⟩ := X₀.turn.up q
      exact absurd (Heap.lt_size (X₀.fr.keep _ _ hs)) (Nat.lt_irrefl _)
  refine loopX (s := { s with heap := s.heap.push _ }) J Q E W hx hp (Nat.ne_of_lt X₀.fr.ns.lt) gN (fun q hq => Nat.ne_of_lt (Heap.lt_size (X₀.nw q hq).1)) ?_ ⟨X₀.turn, X₀.fr.push _, fun q hq => ⟨Heap.get?_push_of_some _ (X₀.nw q hq).1, (X₀.nw q hq).2⟩, X₀.bl, X₀.kin, X₀.top, X₀.dicts⟩ hj (fun e s' h => hE e s' h) (fun _ _ h => h) ?_ ?_
  · show IsRangeIter _ _ _ _ _
    rw [hn]; simpa using Heap.get?_push_size _ rfl
  · rintro i v g m₁ news₁ h tk own hi ⟨_, t, rfl⟩ ha hoff hJ X
    have e1 : a₀ + (i : Int) * 1 = a₀ + (i : Int) := by omega
    rw [e1] at X
    exact turn i t g m₁ news₁ h tk own hi ha hoff hJ X
  · intro g m₁ news₁ h tk hJ X
    exact done g m₁ news₁ h tk hJ X
/-- names that are known are written out -/
theorem fr_names {g h : Heap} {L : Addr} {m : Str → Option Value} (F : Fr g L h m) (ps : List (Str × Value)) (hk : ∀ q ∈ ps, m q.1 = some q.2) : Fr g L h (kstB m ps) := by
  have e : kstB m ps = m := funext fun z => kstB_eq hk fun _ => rfl
  rw [e]; exact F
end
end Mine
end
section
open PySem PySem.W PyProof.Rows PySem.Calls PySem.Spec
set_option Elab.async false
namespace Mine
theorem cut_snoc {b : Array UInt8} {a i : Nat} (h : a + i < b.size) : KBw.bInts (cutB b a (i + 1)) = KBw.bInts (cutB b a i) ++ [(oct b (a + i) : Int)] := by
  have h1 : i < (b.toList.drop a).length := by simp; omega
  unfold cutB oct
  rw [List.take_add_one, List.getElem?_eq_getElem h1]
  simp [KBw.bInts, List.getD, h]
theorem cut_zero {b : Array UInt8} {a : Nat} : KBw.bInts (cutB b a 0) = [] := by simp [cutB, KBw.bInts]
theorem bInts_in (c : Array UInt8) : KBa.In (KBw.bInts c) := fun _ h => KBw.ints_in h
theorem byteArr_bInts (c : Array UInt8) : byteArr (KBw.bInts c) = c := by
  unfold byteArr KBw.bInts
  simp only [List.map_map]
  have : ((fun n : Int => n.toNat.toUInt8) ∘ fun c : UInt8 => (c.toNat : Int)) = id := by
    funext x
    simp
  rw [this]
  simp
theorem ints_snoc {vs : List Value} {ns : List Int} (h : IntsAre vs ns) (n : Int) (t : Tok) : IntsAre (vs ++ [.int n t]) (ns ++ [n]) := h.append (.cons n t .nil)
theorem news_drop2 {h₀ h : Heap} {L : Addr} {a b : Addr × Obj} {l : List (Addr × Obj)} (N : News h₀ L h (a :: b :: l)) : News h₀ L h (a :: l) :=
  news_sub N fun q hq => by rcases List.mem_cons.mp hq with h | h <;> simp [h]
theorem sub_two {a b : Addr × Obj} {rest own : List (Addr × Obj)} : ∀ q ∈ a :: b :: rest, q ∈ a :: b :: (rest ++ own) := fun q hq => by
  simp only [List.mem_cons, List.mem_append] at hq ⊢
  rcases hq with h | h | h <;> simp [h]
theorem own_two {a b : Addr × Obj} {rest own : List (Addr × Obj)} : ∀ q ∈ own, q ∈ a :: b :: (rest ++ own) := fun q hq => by
  simp only [List.mem_cons, List.mem_append]; exact .inr (.inr (.inr hq))
theorem news_drop2' {h₀ h : Heap} {L : Addr} {a b c : Addr × Obj} {rest own : List (Addr × Obj)} (N : News h₀ L h (a :: b :: c :: (rest ++ own))) : News h₀ L h (a :: c :: rest) :=
  news_sub N fun q hq => by simp only [List.mem_cons, List.mem_append] at hq ⊢; rcases hq with h | h | h <;> simp [h]
theorem lt_all' {d tp : Nat} {x : Prop} {o : Obj} {news rest own : List (Addr × Obj)} (h : x ∧ d < tp ∧ AllLt tp (rest ++ own)) (hn : ∀ q, q ∈ news ↔ q = (d, o) ∨ q ∈ rest) : ∀ q ∈ news, q.1 < tp := fun q hq => by
  rcases (hn q).mp hq with rfl | hq
  · exact h.2.1
  · exact kst_ltOf h.2.2 q (List.mem_append.mpr (.inl hq))
theorem fr_back {g₀ g h : Heap} {L : Addr} {m : Str → Option Value} (T : KtsTurn [] g₀ g) (F : Fr g L h m) : Fr g₀ L h m :=
  ⟨F.ns, fun b o e => F.keep b o (T.other b o e (by simp)), by rw [← T.size]; exact F.above⟩
theorem news_back {g₀ g h : Heap} {L : Addr} {l : List (Addr × Obj)} (T : KtsTurn [] g₀ g) (N : News g L h l) : News g₀ L h l := fun q hq =>
  ⟨(N q hq).1, (N q hq).2.1, by
    cases e : g₀.get? q.1 with
    | none => rfl
    | some o => have := T.other _ _ e (by simp); rw [(N q hq).2.2] at this; cases this⟩
end Mine
end
section
open PySem PySem.W PyProof.Rows PySem.Calls PySem.Spec PySem.SeqAt
set_option Elab.async false
namespace Mine
/-- two values that stand for the same data: ints, texts, bytes, lists and tuples of such (n: how deep) -/
inductive Same (h : Heap) : Nat → Value → Value → Prop where
  | rfl {n : Nat} (v : Value) : Same h n v v
  | int {n : Nat} (i : Int) (t u : Tok) : Same h n (.int i t) (.int i u)
  | str {n : Nat} (x : Str) (t u : Tok) : Same h n (.str x t) (.str x u)
  | bytes {n : Nat} (x : Array UInt8) (t u : Tok) : Same h n (.bytes x t) (.bytes x u)
  | list {n : Nat} {l b : Addr} {xs ys : Array Value} : h.IsList l xs → h.IsList b ys → xs.size = ys.size → (∀ j (h1 : j < xs.size) (h2 : j < ys.size), Same h n xs[j] ys[j]) → Same h (n + 1) (.ref l) (.ref b)
  | tuple {n : Nat} {l b : Addr} {xs ys : Array Value} : h.IsTuple l xs → h.IsTuple b ys → xs.size = ys.size → (∀ j (h1 : j < xs.size) (h2 : j < ys.size), Same h n xs[j] ys[j]) → Same h (n + 1) (.ref l) (.ref b)
theorem all_true (n : Nat) : ((List.range n).all fun _ => true) = true := by simp
theorem Same.eqAt {s : Shared} {n : Nat} {v v' : Value} (h : Same s.heap n v v') : ∀ {A : Around}, A.units + n < cLine → EqAt A s v v' true := by
  induction h with
  | rfl v => exact fun _ => EqAt.same v
  | int i t u => intro A _; have := EqAt.int_int (A := A) (s := s) i t i u; simpa using this
  | str x t u => intro A _; have := EqAt.str_str (A := A) (s := s) x t x u; simpa using this
  | bytes x t u => intro A _ prog w E Q hq; exact eqBool_bytes (by simpa using hq)
  | @list n l b xs ys hl hb hsz _ ih =>
    intro A hu
    by_cases hlb : l = b
    · subst hlb; exact EqAt.same _
    · have := RcAt.lists (A := A) (e := fun _ => true) hl hb hsz (by omega) (fun j h1 h2 => ih j h1 h2 (by rw [Around.in1_units]; omega))
      rw [all_true] at this
      exact .of_refs hlb this
  | @tuple n l b xs ys hl hb hsz _ ih =>
    intro A hu
    by_cases hlb : l = b
    · subst hlb; exact EqAt.same _
    · have := RcAt.tuples (A := A) (e := fun _ => true) hl hb (by omega) (fun j h1 h2 => ih j h1 h2 (by rw [Around.in1_units]; omega))
      rw [all_true, hsz] at this
      simp only [BEq.rfl, Bool.and_self] at this
      exact .of_refs hlb this
section
variable {prog : Program} {w : World} {A : Around} {E : Value → Shared → Prop} {s : Shared} {Q : Value → Shared → Prop} {n : Nat} {l b : Addr} {xs ys : Array Value}
theorem eq_tuples (hl : s.heap.IsTuple l xs) (hb : s.heap.IsTuple b ys) (hsz : xs.size = ys.size) (he : ∀ j (h1 : j < xs.size) (h2 : j < ys.size), Same s.heap n xs[j] ys[j]) (hu : A.units + n + 1 < cLine) (h : Q (.bool true) s) :
    wpAny (model prog w) A (compareOp .Eq (.ref l) (.ref b)) Q E s := by
  refine eq_tupleAt (e := fun _ => true) hl hb (by omega) (fun j h1 h2 => (he j h1 h2).eqAt (by rw [Around.in1_units]; omega)) ?_
  rw [all_true, hsz]; simpa using h
theorem ne_tuples (hl : s.heap.IsTuple l xs) (hb : s.heap.IsTuple b ys) (hsz : xs.size = ys.size) (he : ∀ j (h1 : j < xs.size) (h2 : j < ys.size), Same s.heap n xs[j] ys[j]) (hu : A.units + n + 1 < cLine) (h : Q (.bool false) s) :
    wpAny (model prog w) A (compareOp .NotEq (.ref l) (.ref b)) Q E s := by
  have := RcNeAt.tuples (A := A) (e := fun _ => true) hl hb (by omega) (fun j h1 h2 => (he j h1 h2).eqAt (by rw [Around.in1_units]; omega))
  rw [all_true, hsz] at this
  exact this prog w E Q (by simpa using h)
theorem eq_lists (hl : s.heap.IsList l xs) (hb : s.heap.IsList b ys) (hsz : xs.size = ys.size) (he : ∀ j (h1 : j < xs.size) (h2 : j < ys.size), Same s.heap n xs[j] ys[j]) (hu : A.units + n + 1 < cLine) (h : Q (.bool true) s) :
    wpAny (model prog w) A (compareOp .Eq (.ref l) (.ref b)) Q E s := by
  refine eq_listAt (e := fun _ => true) hl hb hsz (by omega) (fun j h1 h2 => (he j h1 h2).eqAt (by rw [Around.in1_units]; omega)) ?_
  rw [all_true]; exact h
theorem ne_lists (hl : s.heap.IsList l xs) (hb : s.heap.IsList b ys) (hsz : xs.size = ys.size) (he : ∀ j (h1 : j < xs.size) (h2 : j < ys.size), Same s.heap n xs[j] ys[j]) (hu : A.units + n + 1 < cLine) (h : Q (.bool false) s) :
    wpAny (model prog w) A (compareOp .NotEq (.ref l) (.ref b)) Q E s := by
  have := RcNeAt.lists (A := A) (e := fun _ => true) hl hb hsz (by omega) (fun j h1 h2 => (he j h1 h2).eqAt (by rw [Around.in1_units]; omega))
  rw [all_true] at this
  exact this prog w E Q (by simpa using h)
end
inductive SameL (h : Heap) (n : Nat) : List Value → List Value → Prop where
  | nil : SameL h n [] []
  | cons {v w : Value} {vs ws : List Value} : Same h n v w → SameL h n vs ws → SameL h n (v :: vs) (w :: ws)
theorem SameL.length {h : Heap} {n : Nat} {vs ws : List Value} (x : SameL h n vs ws) : vs.length = ws.length := by
  induction x with
  | nil => rfl
  | cons _ _ ih => simp [ih]
theorem SameL.get {h : Heap} {n : Nat} {vs ws : List Value} (x : SameL h n vs ws) : ∀ j (h1 : j < vs.toArray.size) (h2 : j < ws.toArray.size), Same h n vs.toArray[j] ws.toArray[j] := by
  induction x with
  | nil => intro j h1; simp at h1
  | cons hd _ ih =>
    intro j h1 h2
    cases j with
    | zero => simpa using hd
    | succ j =>
      have := ih j (by simpa using h1) (by simpa using h2)
      simp only [List.getElem_toArray] at this ⊢
      exact this
theorem SameL.append {h : Heap} {n : Nat} {vs ws vs' ws' : List Value} (x : SameL h n vs ws) (y : SameL h n vs' ws') : SameL h n (vs ++ vs') (ws ++ ws') := by
  induction x with
  | nil => exact y
  | cons hd _ ih => exact .cons hd ih
theorem SameL.ints {h : Heap} {n : Nat} {vs ws : List Value} {ns : List Int} (a : IntsAre vs ns) (b : IntsAre ws ns) : SameL h n vs ws := by
  induction a generalizing ws with
  | nil => cases b; exact .nil
  | cons k t _ ih => cases b with | cons _ u r => exact .cons (.int k t u) (ih r)
theorem SameL.strs {h : Heap} {n : Nat} {vs ws : List Value} {ns : List Str} (a : StrsAre vs ns) (b : StrsAre ws ns) : SameL h n vs ws := by
  induction a generalizing ws with
  | nil => cases b; exact .nil
  | cons k t _ ih => cases b with | cons _ u r => exact .cons (.str k t u) (ih r)
/-- bytes, item by item -/
inductive BytesAre : List Value → List (Array UInt8) → Prop where
  | nil : BytesAre [] []
  | cons (b : Array UInt8) (t : Tok) {vs bs} : BytesAre vs bs → BytesAre (.bytes b t :: vs) (b :: bs)
theorem BytesAre.length {vs : List Value} {bs : List (Array UInt8)} (x : BytesAre vs bs) : vs.length = bs.length := by
  induction x with
  | nil => rfl
  | cons _ _ _ ih => simp [ih]
theorem BytesAre.append {vs ws : List Value} {bs cs : List (Array UInt8)} (x : BytesAre vs bs) (y : BytesAre ws cs) : BytesAre (vs ++ ws) (bs ++ cs) := by
  induction x with
  | nil => exact y
  | cons b t _ ih => exact .cons b t ih
theorem BytesAre.snoc {vs : List Value} {bs : List (Array UInt8)} (x : BytesAre vs bs) (b : Array UInt8) (t : Tok) : BytesAre (vs ++ [.bytes b t]) (bs ++ [b]) := x.append (.cons b t .nil)
theorem SameL.bytes {h : Heap} {n : Nat} {vs ws : List Value} {ns : List (Array UInt8)} (a : BytesAre vs ns) (b : BytesAre ws ns) : SameL h n vs ws := by
  induction a generalizing ws with
  | nil => cases b; exact .nil
  | cons k t _ ih => cases b with | cons _ u r => exact .cons (.bytes k t u) (ih r)
section
variable {prog : Program} {w : World} {A : Around} {E : Value → Shared → Prop} {s : Shared} {Q : Value → Shared → Prop} {n ja jb : Nat} {L a b : Addr} {xs ys : List Value} {h₀ h : Heap} {news : List (Addr × Obj)}
theorem isTup_at (N : News h₀ L h news) (hm : (a, ({ cls := .type "tuple", data := .seq xs.toArray ja } : Obj)) ∈ news) : h.IsTuple a xs.toArray := ⟨_, (N _ hm).1, rfl, _, rfl⟩
theorem isList_at (N : News h₀ L h news) (hm : (a, listOf xs.toArray ja) ∈ news) : h.IsList a xs.toArray := ⟨_, (N _ hm).1, rfl, _, rfl⟩
theorem same_tup (N : News h₀ L h news) (ha : (a, ({ cls := .type "tuple", data := .seq xs.toArray ja } : Obj)) ∈ news) (hb : (b, ({ cls := .type "tuple", data := .seq ys.toArray jb } : Obj)) ∈ news) (he : SameL h n xs ys) : Same h (n + 1) (.ref a) (.ref b) :=
  .tuple (isTup_at N ha) (isTup_at N hb) (by simpa using he.length) he.get
theorem same_list (N : News h₀ L h news) (ha : (a, listOf xs.toArray ja) ∈ news) (hb : (b, listOf ys.toArray jb) ∈ news) (he : SameL h n xs ys) : Same h (n + 1) (.ref a) (.ref b) :=
  .list (isList_at N ha) (isList_at N hb) (by simpa using he.length) he.get
theorem eq_tupL (N : News h₀ L s.heap news) (ha : (a, ({ cls := .type "tuple", data := .seq xs.toArray ja } : Obj)) ∈ news) (hb : (b, ({ cls := .type "tuple", data := .seq ys.toArray jb } : Obj)) ∈ news) (he : SameL s.heap 3 xs ys) (hu : A.units + 4 < cLine) (h : Q (.bool true) s) :
    wpAny (model prog w) A (compareOp .Eq (.ref a) (.ref b)) Q E s := eq_tuples (isTup_at N ha) (isTup_at N hb) (by simpa using he.length) he.get hu h
theorem ne_tupL (N : News h₀ L s.heap news) (ha : (a, ({ cls := .type "tuple", data := .seq xs.toArray ja } : Obj)) ∈ news) (hb : (b, ({ cls := .type "tuple", data := .seq ys.toArray jb } : Obj)) ∈ news) (he : SameL s.heap 3 xs ys) (hu : A.units + 4 < cLine) (h : Q (.bool false) s) :
    wpAny (model prog w) A (compareOp .NotEq (.ref a) (.ref b)) Q E s := ne_tuples (isTup_at N ha) (isTup_at N hb) (by simpa using he.length) he.get hu h
theorem eq_listL (N : News h₀ L s.heap news) (ha : (a, listOf xs.toArray ja) ∈ news) (hb : (b, listOf ys.toArray jb) ∈ news) (he : SameL s.heap 3 xs ys) (hu : A.units + 4 < cLine) (h : Q (.bool true) s) :
    wpAny (model prog w) A (compareOp .Eq (.ref a) (.ref b)) Q E s := eq_lists (isList_at N ha) (isList_at N hb) (by simpa using he.length) he.get hu h
theorem ne_listL (N : News h₀ L s.heap news) (ha : (a, listOf xs.toArray ja) ∈ news) (hb : (b, listOf ys.toArray jb) ∈ news) (he : SameL s.heap 3 xs ys) (hu : A.units + 4 < cLine) (h : Q (.bool false) s) :
    wpAny (model prog w) A (compareOp .NotEq (.ref a) (.ref b)) Q E s := ne_lists (isList_at N ha) (isList_at N hb) (by simpa using he.length) he.get hu h
end
end Mine
end
section
open PySem PySem.W PyProof.Rows PySem.Calls PySem.Spec
set_option Elab.async false
set_option maxRecDepth 100000
namespace Mine
theorem sub_bb : isSubtype (.type "bytes") (.type "bytes") = pure true := by rw [isSubtype_type]; kernel_rfl
theorem look_blen : typeLookup (.type "bytes") "__len__" = pure (some (.builtin "bytes.__len__")) := FB.slot_bytes_len.lookup
section
variable {prog : Program} {w : World} {A : Around} {E : Value → Shared → Prop} {s : Shared}
theorem ite_yes {α : Type} {M : Model} {c : Prop} [Decidable c] {a b : Sem α} {Q : α → Shared → Prop} (hc : c) (h : wpAny M A a Q E s) : wpAny M A (if c then a else b) Q E s := by rw [if_pos hc]; exact h
theorem ite_no {α : Type} {M : Model} {c : Prop} [Decidable c] {a b : Sem α} {Q : α → Shared → Prop} (hc : ¬ c) (h : wpAny M A b Q E s) : wpAny M A (if c then a else b) Q E s := by rw [if_neg hc]; exact h
theorem hint_bytes {c : Array UInt8} {t : Tok} {Q : Bool → Shared → Prop} (h : Q false s) : wpAny (model prog w) A (Builtin.List.listLengthHint (.bytes c t)) Q E s := by
  unfold Builtin.List.listLengthHint
  refine wpAny_bind (wpAny_specialOf (typeIs_bytes s c t) look_blen ?_)
  have e1 : splitId "bytes.__len__" = some ("bytes", "__len__") := by decide +kernel
  dsimp only
  rw [e1]
  dsimp only
  refine wpAny_bind (wpAny_isInstance (T := "bytes") (typeIs_bytes s c t) sub_bb ?_)
  refine ite_no (by decide) ?_
  refine ite_yes (by decide +kernel) ?_
  refine wpAny_bind (wpAny_typeOf (typeIs_bytes s c t) ?_)
  exact wpAny_pure h
theorem ext_loop {I S : Addr} {n : Nat} {P : Nat → Value → Prop} {St : Nat → Heap → Prop} {R : Result → Shared → Prop} (W : Walks prog w A.in1 I [I] [I] n P St) (hSI : S ≠ I) (res : Value) :
    ∀ (k i : Nat) (s : Shared) (acc : List Value) (c : Nat), n - i = k → i ≤ n → St i s.heap → s.heap.get? S = some { cls := .type "list", dict := none, data := .seq acc.toArray c, slots := #[] } → acc.length + (n - i) ≤ sizeLine →
    (∀ h' tk vs c', vs.length = n - i → (∀ j v, vs[j]? = some v → P (i + j) v) → h'.get? S = some { cls := .type "list", dict := none, data := .seq (acc ++ vs).toArray c', slots := #[] } → (∀ b o, b ≠ S → b ≠ I → s.heap.get? b = some o → h'.get? b = some o) → R (.ok (.ret res)) { s with heap := h', toks := tk }) →
    codeAny (model prog w) A (.builtin "list.extend.loop" ⟨[.ref S, .ref I, res], []⟩) R s := by
  intro k
  induction k with
  | zero =>
    intro i s acc c hk hi hst hS hsz hR
    have hin : i = n := by omega
    subst hin
    refine codeAny_builtin F.entry_extend_loop ?_
    rw [Around.under_plainId F.plain_extend_loop _]
    show wpAny _ A.in1 (pyNext (.ref I) >>= _) _ _ s
    refine wpAny_bind (W.done s _ _ hst fun h' tk hk' => ?_)
    exact wpAny_pure (hR h' tk [] c (by simp) (fun j v e => by simp at e) (by simpa using hk' S _ (by simpa using hSI) hS) fun b o _ hb e => hk' b o (by simpa using hb) e)
  | succ k ih =>
    intro i s acc c hk hi hst hS hsz hR
    have hlt : i < n := by omega
    refine codeAny_builtin F.entry_extend_loop ?_
    rw [Around.under_plainId F.plain_extend_loop _]
    show wpAny _ A.in1 (pyNext (.ref I) >>= _) _ _ s
    refine wpAny_bind (W.item i s _ _ hlt hst fun v h' tk hP hst' hk' => ?_)
    have hS' := hk' S _ (by simpa using hSI) hS
    show wpAny _ A.in1 (updateSeq S (·.push v) >>= _) _ _ _
    refine wpAny_bind ?_
    refine wpAny_updateSeq hS' rfl (wpAny_pure ⟨plainId_quiet F.plain_extend_loop _, ih (i + 1) _ (acc ++ [v]) _ (by omega) hlt (W.frame _ h' _ hst' fun b hb o e => ?_) (by rw [Heap.get?_update_self _ hS' rfl]; simp [Obj.mapSeq]; rfl) (by simp; omega) fun h'' tk'' vs c' hl hvs hS'' hkeep => ?_⟩)
      (by simp; omega) (by simp; omega)
    · rw [List.mem_singleton.mp hb] at e ⊢
      exact (Heap.get?_update_other _ _ hSI).trans e
    · refine hR h'' tk'' (v :: vs) c' (by simp; omega) (fun j x e => ?_) (by simpa using hS'') fun b o hb hbI e => ?_
      · cases j with
        | zero => simp at e; subst e; exact hP
        | succ j =>
          have := hvs j x (by simpa using e)
          rwa [show i + 1 + j = i + (j + 1) by omega] at this
      · exact hkeep b o hb hbI ((Heap.get?_update_other _ _ (Ne.symm hb)).trans (hk' b o (by simpa using hbI) e))
end
theorem ints_of {c : Array UInt8} : ∀ {vs : List Value} (i : Nat), vs.length = c.size - i → (∀ j v, vs[j]? = some v → ∃ x u, c[i + j]? = some x ∧ v = .int (x.toNat : Int) u) → IntsAre vs ((KBw.bInts c).drop i)
  | [], i, hl, _ => by
    have : (KBw.bInts c).drop i = [] := List.drop_of_length_le (by rw [KBw.ints_length]; simp at hl; omega)
    rw [this]; exact .nil
  | v :: vs, i, hl, h => by
    obtain ⟨x, u, hx, rfl⟩ := h 0 v (by simp)
    have hlt : i < (KBw.bInts c).length := by rw [KBw.ints_length]; simp at hl; omega
    rw [List.drop_eq_getElem_cons hlt]
    have e : (KBw.bInts c)[i] = (x.toNat : Int) := by
      have := KBw.ints_get (b := c) (i := i) (by simpa using hx)
      rw [List.getElem?_eq_getElem hlt] at this
      exact Option.some.inj this
    rw [e]
    refine .cons _ u (ints_of (i + 1) (by simp at hl; omega) fun j v hv => ?_)
    have := h (j + 1) v (by simpa using hv)
    rwa [show i + (j + 1) = i + 1 + j by omega] at this
theorem meets_ext (D : Addr) (c : Array UInt8) (t : Tok) (vs : List Value) (j : Nat) :
    Meets (Builtin.«list.extend» ⟨[.ref D, .bytes c t], []⟩) (fun A R s => A.handled = none ∧ s.heap.get? D = some (listOf vs.toArray j) ∧ vs.length + c.size ≤ sizeLine ∧
      ∀ h' tk ws c', IntsAre ws (KBw.bInts c) → h'.get? D = some (listOf (vs ++ ws).toArray c') → (∀ b o, b ≠ D → s.heap.get? b = some o → h'.get? b = some o) → R (.ok (.ret .none)) { s with heap := h', toks := tk }) := by
  intro prog w A R s ⟨hh, hD, hsz, hR⟩
  show wpAny _ _ (Builtin.List.listExtendWith (.ref D) (.bytes c t) .none) _ _ s
  unfold Builtin.List.listExtendWith
  refine wpAny_bind (wpAny_typeOf (typeIs_bytes s c t) ?_)
  have h1 : Builtin.List.listSameRef (.ref D) (.bytes c t) = false := rfl
  have h2 : (Value.type "bytes" == Value.type "list") = false := by decide
  have h3 : (Value.type "bytes" == Value.type "tuple") = false := by decide
  simp only [h1, h2, h3, Bool.or_false, Bool.false_eq_true, if_false]
  have hDI : D ≠ s.heap.objs.size := Nat.ne_of_lt (Heap.lt_size hD)
  refine wpAny_bind (KBw.pyIter_bytes ?_)
  refine wpAny_bind (wpAny_holding (hint_bytes ?_))
  refine ite_no (by decide +kernel) ?_
  refine wpAny_pure ⟨plainId_quiet F.plain_extend_loop _, ?_⟩
  have W := KBw.walks (prog := prog) (w := w) (A := A.in1) hh s.heap.objs.size c t
  refine ext_loop (n := c.size) W hDI .none c.size 0 _ vs j (by omega) (Nat.zero_le _) ⟨_, Heap.get?_push_size _ rfl, rfl, rfl⟩ (Heap.get?_push_of_some _ hD) (by omega) fun h' tk ws c' hl hws hD' hk => ?_
  refine hR h' tk ws c' ?_ hD' fun b o hb e => hk b o hb (fun q => ?_) (Heap.get?_push_of_some _ e)
  · have := ints_of (c := c) (vs := ws) 0 (by omega) (fun j v hv => by obtain ⟨x, u, hx, rfl⟩ := hws j v hv; exact ⟨x, u, hx, rfl⟩)
    simpa using this
  · rw [q] at e; exact absurd (Heap.lt_size e) (Nat.lt_irrefl _)
theorem extend_bytes {prog : Program} {w : World} {A : Around} {E : Value → Shared → Prop} {s : Shared} {h₀ : Heap} {L D : Addr} {m : Str → Option Value} {news : List (Addr × Obj)} {upd : Obj → List (Addr × Obj)} {c : Array UInt8} {t : Tok} {vs : List Value} {j : Nat} {Q : Value → Shared → Prop}
    (F : Fr h₀ L s.heap m) (N : News h₀ L s.heap news) (hh : A.handled = none) (U : UpdF D (listOf vs.toArray j) news upd) (hsz : vs.length + c.size ≤ 16777216)
    (h : ∀ h' tk ws c', IntsAre ws (KBw.bInts c) → Fr h₀ L h' m → News h₀ L h' (upd (listOf (vs ++ ws).toArray c')) → Q .none { s with heap := h', toks := tk }) :
    wpAny (model prog w) A (call (.builtin "list.extend") [.ref D, .bytes c t]) Q E s := by
  obtain ⟨rest, hof, hnw, hup⟩ := upd_split U
  have hm := N _ ((hnw _).mpr (.inl rfl))
  refine call_meets PySem.F.slot_list_extend ⟨_, hm.1, rfl⟩ PySem.F.entry_list_extend (PySem.F.args_list_extend_2 _ _) (meets_ext D c t vs j) ⟨hh, hm.1, by rw [sizeLine_eq]; exact hsz, fun h' tk ws c' hi hD hk => ?_⟩
  refine h h' tk ws c' hi ⟨F.ns.at' fun o e => hk _ o (Ne.symm hm.2.1) e, fun b o e => hk b o (fun q => ?_) (F.keep b o e), F.above⟩ fun q hq => ?_
  · rw [q, hm.2.2] at e; cases e
  · rcases (hup _ q).mp hq with rfl | hq'
    · exact ⟨hD, hm.2⟩
    · have hn := N q ((hnw q).mpr (.inr hq'))
      exact ⟨hk _ _ (hof q hq' D (List.mem_singleton.mpr rfl)) hn.1, hn.2⟩
end Mine
end
section
open PySem PySem.W PyProof.Rows PySem.Calls PySem.Spec
set_option Elab.async false
namespace Mine
theorem cut_split (b : Array UInt8) (a n m : Nat) : KBw.bInts (cutB b a (n + m)) = KBw.bInts (cutB b a n) ++ KBw.bInts (cutB b (a + n) m) := by
  unfold cutB KBw.bInts
  rw [List.take_add, List.drop_drop]
  simp
theorem cut_next {b : Array UInt8} {p : Nat} (h : p < b.size) : KBw.bInts (cutB b 0 (p + 1 + oct b p)) = KBw.bInts (cutB b 0 p) ++ [(oct b p : Int)] ++ KBw.bInts (cutB b (p + 1) (oct b p)) := by
  rw [show p + 1 + oct b p = (p + 1) + oct b p from rfl, cut_split, cut_split, Nat.zero_add, Nat.zero_add, ints_cut1 h]
theorem cut_whole {b : Array UInt8} : cutB b 0 b.size = b := by
  unfold cutB
  rw [List.drop_zero, List.take_of_length_le (by simp), Array.toArray_toList]
theorem sub_t3 {t1 t2 a b c : Addr × Obj} {R own : List (Addr × Obj)} : ∀ q ∈ a :: b :: c :: R, q ∈ t1 :: t2 :: a :: b :: c :: (R ++ own) := fun q hq => by
  simp only [List.mem_cons, List.mem_append] at hq ⊢
  rcases hq with h | h | h | h <;> simp [h]
theorem own_t3 {t1 t2 a b c : Addr × Obj} {R own : List (Addr × Obj)} : ∀ q ∈ own, q ∈ t1 :: t2 :: a :: b :: c :: (R ++ own) := fun q hq => by
  simp only [List.mem_cons, List.mem_append]; exact .inr (.inr (.inr (.inr (.inr (.inr hq)))))
theorem picked_upto {b : Array UInt8} {k : Nat} : KBy.picked b none (some (k : Int)) = cutB b 0 k := by
  rw [KBc.picked_eq]
  simp only [Option.elim, clipAt_nat, List.drop_zero, Nat.sub_zero]
  unfold cutB
  rw [List.drop_zero]
  congr 1
  by_cases h : k ≤ b.size
  · rw [Nat.min_eq_left h]
  · rw [Nat.min_eq_right (by omega), List.take_of_length_le (by simp), List.take_of_length_le (by simp; omega)]
section
variable {prog : Program} {w : World} {A : Around} {E : Value → Shared → Prop} {s : Shared} {h₀ : Heap} {L D : Addr} {m : Str → Option Value} {news : List (Addr × Obj)} {vs : List Value} {c x y : Array UInt8} {j : Nat} {t u : Tok} {Q : Value → Shared → Prop}
theorem make_bytes (F : Fr h₀ L s.heap m) (N : News h₀ L s.heap news) (hh : A.handled = none) (hm : (D, listOf vs.toArray j) ∈ news) (hi : IntsAre vs (KBw.bInts c)) (hz : c.size ≤ 16777216)
    (h : ∀ h' t' k, Fr h₀ L h' m → News h₀ L h' news → Q (.bytes c t') { s with heap := h', toks := k }) : wpAny (model prog w) A (call (.type "bytes") [.ref D]) Q E s :=
  KBa.make_K F N hh (isList_at N hm) hi (bInts_in c) (by rw [KBw.ints_length]; exact hz) fun h' t' k F' N' _ => by rw [byteArr_bInts]; exact h h' t' k F' N'
theorem eq_bytes_same (e : x = y) (h : Q (.bool true) s) : wpAny (model prog w) A (compareOp .Eq (.bytes x t) (.bytes y u)) Q E s := by
  subst e; exact eq_bytes (by simpa using h)
theorem ne_bytes_same (e : x = y) (h : Q (.bool false) s) : wpAny (model prog w) A (compareOp .NotEq (.bytes x t) (.bytes y u)) Q E s := by
  subst e; exact ne_bytes (by simpa using h)
end
end Mine
end
section
open PySem PySem.W PyProof.Rows PySem.Calls PySem.Spec PySem.SeqAt
set_option Elab.async false
namespace Mine
theorem ints_getD (b : Array UInt8) (p : Nat) : (KBw.bInts b).getD p 0 = (oct b p : Int) := (KBw.getD_ints b.toList p).symm
section
variable {prog : Program} {w : World} {A : Around} {E : Value → Shared → Prop} {s : Shared} {x y : Str} {t u : Tok} {Q : Value → Shared → Prop}
theorem ne_str_same (e : x = y) (h : Q (.bool false) s) : wpAny (model prog w) A (compareOp .NotEq (.str x t) (.str y u)) Q E s := by
  subst e; exact RcNeAt.str_str x t x u prog w E Q (by simpa using h)
theorem eq_str_same (e : x = y) (h : Q (.bool true) s) : wpAny (model prog w) A (compareOp .Eq (.str x t) (.str y u)) Q E s := by
  subst e; exact RcAt.str_str x t x u prog w E Q (by simpa using h)
end
end Mine
end
section
open PySem PySem.W PyProof.Rows PySem.Calls PySem.Spec
set_option Elab.async false
namespace Mine
/-- the end of a turn, where the ledger may have grown: I is the iterator's place -/
def EndY (g₀ : Heap) (L : Addr) (J : (Str → Option Value) → List (Addr × Obj) → Prop) (I : Addr) (oI : Obj) (s s₂ : Shared) : Prop :=
  ∃ h' tk m' news' nx, s₂ = { s with heap := h', toks := tk } ∧ Fr g₀ L h' m' ∧ News g₀ L h' news' ∧ (∀ q ∈ nx, q ∈ news') ∧ (I, oI) ∈ news' ∧ (∀ q ∈ nx, @Ne Nat q.1 I) ∧ J m' nx
def PostY (g₀ : Heap) (L : Addr) (J : (Str → Option Value) → List (Addr × Obj) → Prop) (I : Addr) (oI : Obj) (Q : Flow → Shared → Prop) (s : Shared) (f : Flow) (s₂ : Shared) : Prop :=
  match f with
  | .ret v => Q (.ret v) s₂
  | .brk => Q .next s₂
  | _ => EndY g₀ L J I oI s s₂
theorem EndY.intro {g₀ : Heap} {L : Addr} {J : (Str → Option Value) → List (Addr × Obj) → Prop} {I : Addr} {oI : Obj} {s : Shared} {h' : Heap} {tk : Nat} {m' : Str → Option Value} {news' nx : List (Addr × Obj)}
    (F : Fr g₀ L h' m') (N : News g₀ L h' news') (hj : J m' nx) (hn : ∀ q ∈ nx, q ∈ news') (hI : (I, oI) ∈ news') (hne : ∀ q ∈ nx, @Ne Nat q.1 I) : EndY g₀ L J I oI s { s with heap := h', toks := tk } :=
  ⟨h', tk, m', news', nx, rfl, F, N, hn, hI, hne, hj⟩
section
variable {g₀ : Heap}
theorem loopY {prog : Program} {w : World} {A : Around} {s : Shared} {env : Env} {R : Result → Shared → Prop} {x : Str} {px : Pos} {body : List Stmt} {I : Addr} {n : Nat} {P : Nat → Value → Prop} {St : Nat → Heap → Prop} {m₀ : Str → Option Value} {news : List (Addr × Obj)}
    (J : Nat → (Str → Option Value) → List (Addr × Obj) → Prop) (Q : Flow → Shared → Prop) (E : Value → Shared → Prop)
    (W : Walks prog w A I [I] [I] n P St) (hIo : ∀ i h, St i h → ∃ o, h.get? I = some o) (hx : env.kindOf x = some .local)
    (hp : (env.scope.kind == .class || (env.scope.kind == .module && env.locals != env.globals)) = false)
    (hLI : env.locals ≠ I) (hgI : g₀.get? I = none) (hnI : ∀ q ∈ news, @Ne Nat q.1 I)
    (hst : St 0 s.heap) (F₀ : Fr g₀ env.locals s.heap m₀) (N₀ : News g₀ env.locals s.heap news) (hj : J 0 m₀ news)
    (hE : ∀ e s', E e s' → notedBy (model prog w) A env (fun e s' => R (.error e) s') e s')
    (hQ : ∀ f s', Q f s' → R (.ok f) s')
    (turn : ∀ i v m₁ news₁ h tk oI, i < n → P i v → (∀ q ∈ news₁, @Ne Nat q.1 I) → J i m₁ news₁ →
      Fr g₀ env.locals h (fun y => if y = x then some v else m₁ y) → News g₀ env.locals h ((I, oI) :: news₁) →
      wpAny (model prog w) A (execs body env) (PostY g₀ env.locals (J (i + 1)) I oI Q s) E { s with heap := h, toks := tk })
    (done : ∀ m₁ news₁ h tk, J n m₁ news₁ → Fr g₀ env.locals h m₁ → News g₀ env.locals h news₁ → Q .next { s with heap := h, toks := tk }) :
    codeAny (model prog w) A (.forLoop (.Name x px) (.ref I) body [] env) R s := by
  refine codeAny_forLoop
    (fun k s' => ∃ h' tk m' news' i, s' = { s with heap := h', toks := tk } ∧ St i h' ∧ Fr g₀ env.locals h' m' ∧ News g₀ env.locals h' news' ∧ (∀ q ∈ news', @Ne Nat q.1 I) ∧ J i m' news' ∧ i ≤ n ∧ k = n + 1 - i) ?_ (n + 1)
    ⟨s.heap, s.toks, m₀, news, 0, rfl, hst, F₀, N₀, hnI, hj, Nat.zero_le _, rfl⟩
  rintro k s' ⟨h', tk, m', news', i, rfl, hst', F', N', nI, hJ, hi, rfl⟩
  have nextF : ∀ h₁ : Heap, (∀ b o, b ∉ [I] → h'.get? b = some o → h₁.get? b = some o) → Fr g₀ env.locals h₁ m' := fun h₁ hk₁ =>
    ⟨F'.ns.at' fun o e => hk₁ _ o (by simpa using hLI) e, fun b o e => hk₁ b o (fun hb => by rw [List.mem_singleton.mp hb, hgI] at e; cases e) (F'.keep b o e), F'.above⟩
  have nextN : ∀ h₁ : Heap, (∀ b o, b ∉ [I] → h'.get? b = some o → h₁.get? b = some o) → News g₀ env.locals h₁ news' := fun h₁ hk₁ =>
    fun q hq => ⟨hk₁ _ _ (by simpa using nI q hq) (N' q hq).1, (N' q hq).2⟩
  by_cases hlt : i < n
  · refine W.item i _ _ _ hlt hst' fun v h₁ tk₁ hP hst₁ hk₁ => ?_
    have F₁ := nextF h₁ hk₁
    have N₁ := nextN h₁ hk₁
    refine wpAny_assign_Name (wpAny_storeName_local hx F₁.ns (fun h₂ hn₂ hs₂ => ?_) hp)
    have F₂ := F₁.set hn₂ hs₂
    have N₂ := N₁.set hs₂
    have hst₂ : St (i + 1) h₂ := W.frame _ _ _ hst₁ fun b hb o e => (hs₂.2 b fun q => hLI (by rw [List.mem_singleton.mp hb] at q; exact q.symm)).trans e
    obtain ⟨oI, hoI⟩ := hIo _ _ hst₂
    have N₃ : News g₀ env.locals h₂ ((I, oI) :: news') := fun q hq => by
      rcases List.mem_cons.mp hq with rfl | hq
      · exact ⟨hoI, hLI.symm, hgI⟩
      · exact N₂ q hq
    refine wpAny_mono (turn i v m' news' h₂ _ oI hlt hP nI hJ F₂ N₃) (fun f s₃ h₃ => ?_) fun e s' h' => hE e s' h'
    have fin : EndY g₀ env.locals (J (i + 1)) I oI s s₃ → ∃ m, m < n + 1 - i ∧ ∃ h' tk m' news' i', s₃ = { s with heap := h', toks := tk } ∧ St i' h' ∧ Fr g₀ env.locals h' m' ∧ News g₀ env.locals h' news' ∧ (∀ q ∈ news', @Ne Nat q.1 I) ∧ J i' m' news' ∧ i' ≤ n ∧ m = n + 1 - i' := by
      rintro ⟨h₃', tk₃, m₃, news₃, nx, rfl, F₃, N₃, hsub, hI, hne, hJ₃⟩
      refine ⟨n + 1 - (i + 1), by omega, h₃', tk₃, m₃, nx, i + 1, rfl, ?_, F₃, fun q hq => N₃ q (hsub q hq), hne, hJ₃, hlt, rfl⟩
      exact W.frame _ _ _ hst₂ fun b hb o e => by
        rw [List.mem_singleton.mp hb] at e ⊢
        rw [hoI] at e; cases e
        exact (N₃ _ hI).1
    cases f with
    | ret v => exact hQ _ _ h₃
    | brk => exact hQ _ _ h₃
    | next => exact fin h₃
    | cont => exact fin h₃
  · have hin : i = n := by omega
    subst hin
    refine W.done _ _ _ hst' fun h₁ tk₁ hk₁ => wpAny_execs_nil ?_
    exact hQ _ _ (done m' news' h₁ tk₁ hJ (nextF h₁ hk₁) (nextN h₁ hk₁))

theorem iterY_range {prog : Program} {w : World} {A : Around} {s : Shared} {env : Env} {x : Str} {px : Pos} {body : List Stmt} {r : Addr} {a₀ b₀ c₀ : Int} {t₀ u₀ v₀ : Tok} {n : Nat} {m₀ : Str → Option Value} {news : List (Addr × Obj)} {Q : Flow → Shared → Prop} {E : Value → Shared → Prop}
    (J : Nat → (Str → Option Value) → List (Addr × Obj) → Prop)
    (hh : A.handled = none) (hr : IsRange s.heap r a₀ b₀ c₀ t₀ u₀ v₀) (hsmall : Builtin.Range.small a₀ b₀ c₀ = true) (hn : Builtin.Range.rangeSize a₀ b₀ c₀ = (n : Int)) (hx : env.kindOf x = some .local)
    (hp : (env.scope.kind == .class || (env.scope.kind == .module && env.locals != env.globals)) = false)
    (F₀ : Fr g₀ env.locals s.heap m₀) (N₀ : News g₀ env.locals s.heap news) (hj : J 0 m₀ news)
    (hE : PassesOwn (model prog w) A env E)
    (turn : ∀ I i t m₁ news₁ h tk oI, i < n → (∀ q ∈ news₁, @Ne Nat q.1 I) → J i m₁ news₁ →
      Fr g₀ env.locals h (fun y => if y = x then some (.int (a₀ + (i : Nat) * c₀) t) else m₁ y) → News g₀ env.locals h ((I, oI) :: news₁) →
      wpAny (model prog w) A (execs body env) (PostY g₀ env.locals (J (i + 1)) I oI Q s) E { s with heap := h, toks := tk })
    (done : ∀ m₁ news₁ h tk, J n m₁ news₁ → Fr g₀ env.locals h m₁ → News g₀ env.locals h news₁ → Q .next { s with heap := h, toks := tk }) :
    wpAny (model prog w) A (pyIter (.ref r)) (fun it s₂ => codeAny (model prog w) A (.forLoop (.Name x px) it body [] env) (fun r s' => match r with | .ok f => Q f s' | .error e => cameBackBy (model prog w) A env E e s') s₂) E s := by
  refine wpAny_pyIter_range hr hsmall ?_
  have W : Walks prog w A s.heap.objs.size [s.heap.objs.size] [s.heap.objs.size] n (fun i v => i < n ∧ ∃ t, v = .int (a₀ + i * c₀) t)
      (fun i h => IsRangeIter h s.heap.objs.size (a₀ + (i : Nat) * c₀) ((n : Int) - (i : Nat)) c₀) := (Walks.range hh _ a₀ c₀ n).bound
  have gN : g₀.get? s.heap.objs.size = none := by
    cases q : g₀.get? s.heap.objs.size with
    | none => rfl
    | some o => exact absurd (Heap.lt_size (F₀.keep _ _ q)) (Nat.lt_irrefl _)
  refine loopY (s := { s with heap := s.heap.push _ }) J Q E W (fun i h hi => ?_) hx hp (Nat.ne_of_lt F₀.ns.lt) gN (fun q hq => Nat.ne_of_lt (Heap.lt_size (N₀ q hq).1)) ?_ (F₀.push _) (fun q hq => ⟨Heap.get?_push_of_some _ (N₀ q hq).1, (N₀ q hq).2⟩) hj (fun e s' h => hE e s' h) (fun f s' h => h) ?_ ?_
  · exact ⟨_, hi⟩
  · show IsRangeIter _ _ _ _ _
    rw [hn]; simpa using Heap.get?_push_size _ rfl
  · rintro i v m₁ news₁ h tk oI hi ⟨_, t, rfl⟩ ho hJ F N
    exact turn _ i t m₁ news₁ h tk oI hi ho hJ F N
  · intro m₁ news₁ h tk hJ F N
    exact done m₁ news₁ h tk hJ F N
end
end Mine
namespace Mine
open PySem PySem.W PyProof.Rows PySem.Calls PySem.Spec
theorem size_down (k : Nat) : Builtin.Range.rangeSize ((k : Int) - 1) (-1) (-1) = (k : Int) := by
  unfold Builtin.Range.rangeSize
  simp only [show ¬ ((-1 : Int) > 0) by decide, if_false, show (- -1 : Int) = 1 by decide, Int.ediv_one]
  split <;> omega
theorem small_down {k : Nat} (hk : k < 1000000) : Builtin.Range.small ((k : Int) - 1) (-1) (-1) = true := by
  unfold Builtin.Range.small
  rw [size_down]
  simp only [Builtin.Range.rangeFitsLong, Bool.and_eq_true, Bool.or_eq_true, decide_eq_true_eq, beq_iff_eq, show ¬ ((-1 : Int) > 0) by decide, if_false]
  omega
end Mine
end
section
open PySem PySem.W PyProof.Rows PySem.Calls PySem.Spec
set_option Elab.async false
namespace Mine
section
variable {prog : Program} {w : World} {A₀ A : Around} {s : Shared} {base h₀ : Heap} {L a : Addr} {m : Str → Option Value} {cn : Str} {cs : Scope} {ccd : Value} {cl : List (Str × Addr)} {news : List (Addr × Obj)} {K : Frag} {p : Program} {loose : List Str} {mean : ExcName → Option Value} {mg mb : Str → Option Value}
    {R : Result → Shared → Prop} {name qual : Str} {params : Arguments} {body : List Stmt} {scope : Scope} {dV kV doc pm cdv ct oc : Value} {an od : Option Addr} {osl : Array (Option Value)} {f : Addr} {args : Args} {binds : List (Str × Value)}
/-- back from a callee whose ground turned: the caller's frame alone may have changed its slots -/
theorem back_turn {g g' h : Heap} {L' : Addr} {m' : Str → Option Value} {news' : List (Addr × Obj)} (FG : Fr h₀ L g m) (T : KtsTurn [L] g g') (F' : Fr g' L' h m') (N' : News g' L' h news') : Fr h₀ L h m ∧ News h₀ L h news' := by
  obtain ⟨oL, es, ep, hL, hLd, hLk, hLf⟩ := FG.ns
  obtain ⟨sl, hs⟩ := T.up hL
  have nL : h₀.get? L = none := kts_self FG
  refine ⟨⟨⟨_, es, ep, F'.keep _ _ hs, hLd, hLk, hLf⟩, fun b o e => F'.keep b o (T.other b o (FG.keep b o e) fun q => ?_), FG.above⟩, fun q hq => ⟨(N' q hq).1, fun e => ?_, ?_⟩⟩
  · rw [List.mem_singleton.mp q, nL] at e; cases e
  · have := (N' q hq).2.2; rw [e, hs] at this; cases this
  · cases e : h₀.get? q.1 with
    | none => rfl
    | some o =>
      obtain ⟨sl', hs'⟩ := T.up (FG.keep _ _ e)
      have := (N' q hq).2.2
      rw [hs'] at this; cases this
/-- the way into a def with a try, from a caller that may hold cells -/
theorem code_defSX (B : Below A₀ base [] h₀) (F : Fr h₀ L s.heap m) (X₀ : K.In h₀) (N : News h₀ L s.heap news) (T : Top p loose mean mg mb h₀) (hA : A.frames = some [envX cn cs L a ccd cl])
    (ho : K.lookup f = some ⟨oc, od, .func (fnOf name qual params body scope dV kV doc pm an cdv ct), osl⟩) (hcd : codeIn K cdv qual = true) (hroom : A.depth < recursionLimit)
    (hbind : BindsTo s (fnOf name qual params body scope dV kV doc pm an cdv ct) args binds) (hloc : ∀ y ∈ binds, scope.names.lookup y.1 = some .local)
    (h : ∀ g L' h₁, Fr h₀ L g m → Fr g L' h₁ (fun y => binds.reverse.lookup y) → News g L' h₁ news → Below A base [envX cn cs L a ccd cl] g → K.In g → Top p loose mean mg mb g → KtsDicts ([envX cn cs L a ccd cl].filterMap (·.frame)) g →
      wpAny (model prog w) (A.deeper (envOf qual scope L' f cdv)) (execs body (envOf qual scope L' f cdv))
        (fun fl s' => LeaveS0 ([envX cn cs L a ccd cl].filterMap (·.frame)) h₀ L m g R (match fl with | .ret v => v | _ => .none) s')
        (fun e s' => wpAny (model prog w) (A.deeper (envOf qual scope L' f cdv)) (leaving (envOf qual scope L' f cdv) e) (fun _ s'' => R (.error e) s'') (fun e' s'' => R (.error e') s'') s')
        { s with heap := h₁, toks := s.toks + binds.length })
    (hck : cs.kind = .function) (hco : scope.isCoroutine = false) (hgen : scope.isGenerator = false) (hk : scope.kind = .function)
    (hcell : ∀ x ∈ scope.names, x.2 ≠ .cell) : codeAny (model prog w) A (.call (.ref f) args) R s := by
  have X := X₀.keeps F.keep
  obtain ⟨FG, BG, st, -⟩ := groundX (R := R) B F N hA rfl hck
  refine codeAny_call_def (fd := fnOf name qual params body scope dV kV doc pm an cdv ct) (body := body) (binds := binds) hroom (X _ _ ho) rfl (T.nolimit.keeps F.keep) (codeRec_of X hcd) rfl hbind hcell hloc (fun h₁ hns hk₁ => ?_) hco hgen hk
  have D : KtsDicts ([envX cn cs L a ccd cl].filterMap (·.frame)) (hideAll s.heap (news.map (·.1))) := fun b hb => by
    obtain ⟨oL, es, ep, hL, hLd, _⟩ := FG.ns
    have e : b = L := List.mem_singleton.mp (show b ∈ [L] from hb)
    rw [e]; exact ⟨oL, es, ep, hL, hLd⟩
  refine wpAny_mono (h _ s.heap.objs.size h₁ FG ⟨hns, fun b o e => hk₁ b o (of_hideAll _ e), Nat.le_of_eq (hideAll_size _ _)⟩
    (fun q hq => ⟨hk₁ _ _ (N q hq).1, Nat.ne_of_lt (Heap.lt_size (N q hq).1), hideAll_none _ (List.mem_map_of_mem hq)⟩) BG (X₀.keeps st) (T.keeps st) D) (fun fl s' hl => ?_) fun _ _ y => y
  obtain ⟨g', L', m', news', T', F', N', k⟩ := hl
  obtain ⟨a1, a2⟩ := back_turn FG T' F' N'
  exact k a1 a2
end
end Mine
end
section
open PySem PySem.W PyProof.Rows PySem.Calls PySem.Spec
set_option Elab.async false
namespace Mine
/-- no code of a code -/
def NoTab (o : Obj) : Prop := ∀ vs q t, o.data = .fields vs → vs[1]? ≠ some (.str q t)
theorem noTab_seq {o : Obj} {vs : Array Value} {n : Nat} (h : o.data = .seq vs n) : NoTab o := fun _ _ _ e => by rw [h] at e; cases e
theorem noTab_cell {o : Obj} {v : Option Value} (h : o.data = .cell v) : NoTab o := fun _ _ _ e => by rw [h] at e; cases e
theorem noTab_dict {o : Obj} {es : Array DictEntry} {n : Nat} (h : o.data = .dict es n) : NoTab o := fun _ _ _ e => by rw [h] at e; cases e
theorem noTab_int {o : Obj} {ws : Array Value} {k : Int} {u : Tok} (h : o.data = .fields ws) (h1 : ws[1]? = some (.int k u)) : NoTab o := fun vs q t e e' => by
  rw [h] at e; cases e
  rw [h1] at e'; cases e'
theorem tab_off {h₀ h : Heap} {L a P : Addr} {X T : List (Addr × Obj)} {o : Obj} {i j : Value} {qual : Str} (N : News h₀ L h X) (hT : Tab P i j qual T) (hs : ∀ e ∈ T, e ∈ X) (hm : (a, o) ∈ X) (hn : NoTab o) (hP : @Ne Nat P a) : OwnOff T [a] := by
  intro q hq c hc
  rw [List.mem_singleton.mp hc]
  cases hT with
  | none => rw [List.mem_singleton.mp hq]; exact hP
  | some h1 h2 h3 =>
    simp only [List.mem_cons, List.not_mem_nil, or_false] at hq
    rcases hq with rfl | rfl
    · exact hP
    · intro e
      have e1 := (N _ (hs _ (.tail _ (.head _)))).1
      have e2 := (N _ hm).1
      rw [show ((_, _) : Addr × Obj).1 = a from e] at e1
      have e3 := Option.some.inj (e1.symm.trans e2)
      dsimp only at e3
      exact hn _ _ _ (by rw [← e3]; exact h2) h3
section
variable {g₀ : Heap}
/-- a for of any target over any source; the ledger may grow and shrink; fpo: what the source leans on -/
theorem loopG {prog : Program} {w : World} {A : Around} {s : Shared} {env : Env} {R : Result → Shared → Prop} {tg : Expr} {body : List Stmt} {I : Addr} {n : Nat} {P : Nat → Value → Prop} {St : Nat → Heap → Prop} {m₀ : Str → Option Value} {news fpo : List (Addr × Obj)}
    (J : Nat → (Str → Option Value) → List (Addr × Obj) → Prop) (Q : Flow → Shared → Prop) (E : Value → Shared → Prop)
    (W : Walks prog w A I (I :: fpo.map (·.1)) [I] n P St) (hIo : ∀ i h, St i h → ∃ o, h.get? I = some o ∧ NoTab o)
    (hJf : ∀ i m nx, J i m nx → ∀ q ∈ fpo, q ∈ nx)
    (hLI : env.locals ≠ I) (hgI : g₀.get? I = none) (hnI : ∀ q ∈ news, @Ne Nat q.1 I)
    (hst : St 0 s.heap) (F₀ : Fr g₀ env.locals s.heap m₀) (N₀ : News g₀ env.locals s.heap news) (hj : J 0 m₀ news)
    (hE : ∀ e s', E e s' → notedBy (model prog w) A env (fun e s' => R (.error e) s') e s')
    (hQ : ∀ f s', Q f s' → R (.ok f) s')
    (turn : ∀ i v m₁ news₁ h tk oI, NoTab oI → i < n → P i v → (∀ q ∈ news₁, @Ne Nat q.1 I) → J i m₁ news₁ →
      Fr g₀ env.locals h m₁ → News g₀ env.locals h ((I, oI) :: news₁) →
      wpAny (model prog w) A (assign tg env v) (fun _ s₂ => wpAny (model prog w) A (execs body env) (PostY g₀ env.locals (J (i + 1)) I oI Q s) E s₂) E { s with heap := h, toks := tk })
    (done : ∀ m₁ news₁ h tk, J n m₁ news₁ → Fr g₀ env.locals h m₁ → News g₀ env.locals h news₁ → Q .next { s with heap := h, toks := tk })
    (ht : ∀ v, letOwnedTupleGo tg (.ref I) v = pure () := by intro _; rfl) :
    codeAny (model prog w) A (.forLoop tg (.ref I) body [] env) R s := by
  refine codeAny_forLoop
    (fun k s' => ∃ h' tk m' news' i, s' = { s with heap := h', toks := tk } ∧ St i h' ∧ Fr g₀ env.locals h' m' ∧ News g₀ env.locals h' news' ∧ (∀ q ∈ news', @Ne Nat q.1 I) ∧ J i m' news' ∧ i ≤ n ∧ k = n + 1 - i) ?_ (n + 1)
    ⟨s.heap, s.toks, m₀, news, 0, rfl, hst, F₀, N₀, hnI, hj, Nat.zero_le _, rfl⟩ ht
  rintro k s' ⟨h', tk, m', news', i, rfl, hst', F', N', nI, hJ, hi, rfl⟩
  have nextF : ∀ h₁ : Heap, (∀ b o, b ∉ [I] → h'.get? b = some o → h₁.get? b = some o) → Fr g₀ env.locals h₁ m' := fun h₁ hk₁ =>
    ⟨F'.ns.at' fun o e => hk₁ _ o (by simpa using hLI) e, fun b o e => hk₁ b o (fun hb => by rw [List.mem_singleton.mp hb, hgI] at e; cases e) (F'.keep b o e), F'.above⟩
  have nextN : ∀ h₁ : Heap, (∀ b o, b ∉ [I] → h'.get? b = some o → h₁.get? b = some o) → News g₀ env.locals h₁ news' := fun h₁ hk₁ =>
    fun q hq => ⟨hk₁ _ _ (by simpa using nI q hq) (N' q hq).1, (N' q hq).2⟩
  by_cases hlt : i < n
  · refine W.item i _ _ _ hlt hst' fun v h₁ tk₁ hP hst₁ hk₁ => ?_
    have F₁ := nextF h₁ hk₁
    have N₁ := nextN h₁ hk₁
    obtain ⟨oI, hoI, hoT⟩ := hIo _ _ hst₁
    have N₃ : News g₀ env.locals h₁ ((I, oI) :: news') := fun q hq => by
      rcases List.mem_cons.mp hq with rfl | hq
      · exact ⟨hoI, hLI.symm, hgI⟩
      · exact N₁ q hq
    refine wpAny_mono (turn i v m' news' h₁ _ oI hoT hlt hP nI hJ F₁ N₃) (fun _ s₂ h₂ => wpAny_mono h₂ (fun f s₃ h₃ => ?_) fun e s' h' => hE e s' h') fun e s' h' => hE e s' h'
    have fin : EndY g₀ env.locals (J (i + 1)) I oI s s₃ → ∃ m, m < n + 1 - i ∧ ∃ h' tk m' news' i', s₃ = { s with heap := h', toks := tk } ∧ St i' h' ∧ Fr g₀ env.locals h' m' ∧ News g₀ env.locals h' news' ∧ (∀ q ∈ news', @Ne Nat q.1 I) ∧ J i' m' news' ∧ i' ≤ n ∧ m = n + 1 - i' := by
      rintro ⟨h₃', tk₃, m₃, news₃, nx, rfl, F₃, N₄, hsub, hI, hne, hJ₃⟩
      refine ⟨n + 1 - (i + 1), by omega, h₃', tk₃, m₃, nx, i + 1, rfl, ?_, F₃, fun q hq => N₄ q (hsub q hq), hne, hJ₃, hlt, rfl⟩
      exact W.frame _ _ _ hst₁ fun b hb o e => by
        rcases List.mem_cons.mp hb with rfl | hb
        · rw [hoI] at e; cases e
          exact (N₄ _ hI).1
        · obtain ⟨q, hq, rfl⟩ := List.mem_map.mp hb
          have h1 := (N₁ q (hJf _ _ _ hJ q hq)).1
          rw [h1] at e; cases e
          exact (N₄ q (hsub q (hJf _ _ _ hJ₃ q hq))).1
    cases f with
    | ret v => exact hQ _ _ h₃
    | brk => exact hQ _ _ h₃
    | next => exact fin h₃
    | cont => exact fin h₃
  · have hin : i = n := by omega
    subst hin
    refine W.done _ _ _ hst' fun h₁ tk₁ hk₁ => wpAny_execs_nil ?_
    exact hQ _ _ (done m' news' h₁ tk₁ hJ (nextF h₁ hk₁) (nextN h₁ hk₁))

theorem iterG_range {prog : Program} {w : World} {A : Around} {s : Shared} {env : Env} {tg : Expr} {body : List Stmt} {r : Addr} {a₀ b₀ c₀ : Int} {t₀ u₀ v₀ : Tok} {n : Nat} {m₀ : Str → Option Value} {news : List (Addr × Obj)} {Q : Flow → Shared → Prop} {E : Value → Shared → Prop}
    (J : Nat → (Str → Option Value) → List (Addr × Obj) → Prop)
    (hh : A.handled = none) (hr : IsRange s.heap r a₀ b₀ c₀ t₀ u₀ v₀) (hsmall : Builtin.Range.small a₀ b₀ c₀ = true) (hn : Builtin.Range.rangeSize a₀ b₀ c₀ = (n : Int))
    (F₀ : Fr g₀ env.locals s.heap m₀) (N₀ : News g₀ env.locals s.heap news) (hj : J 0 m₀ news)
    (hE : PassesOwn (model prog w) A env E)
    (turn : ∀ I i t m₁ news₁ h tk oI, NoTab oI → i < n → (∀ q ∈ news₁, @Ne Nat q.1 I) → J i m₁ news₁ →
      Fr g₀ env.locals h m₁ → News g₀ env.locals h ((I, oI) :: news₁) →
      wpAny (model prog w) A (assign tg env (.int (a₀ + (i : Nat) * c₀) t)) (fun _ s₂ => wpAny (model prog w) A (execs body env) (PostY g₀ env.locals (J (i + 1)) I oI Q s) E s₂) E { s with heap := h, toks := tk })
    (done : ∀ m₁ news₁ h tk, J n m₁ news₁ → Fr g₀ env.locals h m₁ → News g₀ env.locals h news₁ → Q .next { s with heap := h, toks := tk })
    (ht : ∀ I v, letOwnedTupleGo tg (.ref I) v = pure () := by intro _ _; rfl) :
    wpAny (model prog w) A (pyIter (.ref r)) (fun it s₂ => codeAny (model prog w) A (.forLoop tg it body [] env) (fun r s' => match r with | .ok f => Q f s' | .error e => cameBackBy (model prog w) A env E e s') s₂) E s := by
  refine wpAny_pyIter_range hr hsmall ?_
  have W : Walks prog w A s.heap.objs.size [s.heap.objs.size] [s.heap.objs.size] n (fun i v => i < n ∧ ∃ t, v = .int (a₀ + i * c₀) t)
      (fun i h => IsRangeIter h s.heap.objs.size (a₀ + (i : Nat) * c₀) ((n : Int) - (i : Nat)) c₀) := (Walks.range hh _ a₀ c₀ n).bound
  have gN : g₀.get? s.heap.objs.size = none := by
    cases q : g₀.get? s.heap.objs.size with
    | none => rfl
    | some o => exact absurd (Heap.lt_size (F₀.keep _ _ q)) (Nat.lt_irrefl _)
  refine loopG (s := { s with heap := s.heap.push _ }) (fpo := []) J Q E W (fun i h hi => ?_) (fun _ _ _ _ q hq => (nomatch hq)) (Nat.ne_of_lt F₀.ns.lt) gN (fun q hq => Nat.ne_of_lt (Heap.lt_size (N₀ q hq).1)) ?_ (F₀.push _) (fun q hq => ⟨Heap.get?_push_of_some _ (N₀ q hq).1, (N₀ q hq).2⟩) hj (fun e s' h => hE e s' h) (fun f s' h => h) ?_ ?_ (ht _)
  · exact ⟨_, hi, noTab_int rfl rfl⟩
  · show IsRangeIter _ _ _ _ _
    rw [hn]; simpa using Heap.get?_push_size _ rfl
  · rintro i v m₁ news₁ h tk oI hoT hi ⟨_, t, rfl⟩ ho hJ F N
    exact turn _ i t m₁ news₁ h tk oI hoT hi ho hJ F N
  · intro m₁ news₁ h tk hJ F N
    exact done m₁ news₁ h tk hJ F N

theorem iterG_list {prog : Program} {w : World} {A : Around} {s : Shared} {env : Env} {tg : Expr} {body : List Stmt} {r : Addr} {vs : List Value} {jv : Nat} {m₀ : Str → Option Value} {news : List (Addr × Obj)} {Q : Flow → Shared → Prop} {E : Value → Shared → Prop}
    (J : Nat → (Str → Option Value) → List (Addr × Obj) → Prop)
    (hh : A.handled = none) (hJf : ∀ i m nx, J i m nx → (r, listOf vs.toArray jv) ∈ nx)
    (F₀ : Fr g₀ env.locals s.heap m₀) (N₀ : News g₀ env.locals s.heap news) (hj : J 0 m₀ news)
    (hE : PassesOwn (model prog w) A env E)
    (turn : ∀ I i v m₁ news₁ h tk oI, NoTab oI → i < vs.length → vs[i]? = some v → (∀ q ∈ news₁, @Ne Nat q.1 I) → J i m₁ news₁ →
      Fr g₀ env.locals h m₁ → News g₀ env.locals h ((I, oI) :: news₁) →
      wpAny (model prog w) A (assign tg env v) (fun _ s₂ => wpAny (model prog w) A (execs body env) (PostY g₀ env.locals (J (i + 1)) I oI Q s) E s₂) E { s with heap := h, toks := tk })
    (done : ∀ m₁ news₁ h tk, J vs.length m₁ news₁ → Fr g₀ env.locals h m₁ → News g₀ env.locals h news₁ → Q .next { s with heap := h, toks := tk })
    (ht : ∀ I v, letOwnedTupleGo tg (.ref I) v = pure () := by intro _ _; rfl) :
    wpAny (model prog w) A (pyIter (.ref r)) (fun it s₂ => codeAny (model prog w) A (.forLoop tg it body [] env) (fun r s' => match r with | .ok f => Q f s' | .error e => cameBackBy (model prog w) A env E e s') s₂) E s := by
  have hmr := hJf _ _ _ hj
  have hl : s.heap.IsList r vs.toArray := ⟨_, (N₀ _ hmr).1, rfl, _, rfl⟩
  refine wpAny_pyIter_list hl ?_
  have hne : r ≠ s.heap.objs.size := Nat.ne_of_lt (Heap.lt_size (N₀ _ hmr).1)
  have W := Walks.list (prog := prog) (w := w) hh s.heap.objs.size r hne vs.toArray
  have gN : g₀.get? s.heap.objs.size = none := by
    cases q : g₀.get? s.heap.objs.size with
    | none => rfl
    | some o => exact absurd (Heap.lt_size (F₀.keep _ _ q)) (Nat.lt_irrefl _)
  refine loopG (s := { s with heap := s.heap.push _ }) (fpo := [(r, listOf vs.toArray jv)]) J Q E W (fun i h hi => ?_) (fun i m nx hJ q hq => by rw [List.mem_singleton.mp hq]; exact hJf i m nx hJ) (Nat.ne_of_lt F₀.ns.lt) gN (fun q hq => Nat.ne_of_lt (Heap.lt_size (N₀ q hq).1)) ?_ (F₀.push _) (fun q hq => ⟨Heap.get?_push_of_some _ (N₀ q hq).1, (N₀ q hq).2⟩) hj (fun e s' h => hE e s' h) (fun f s' h => h) ?_ ?_ (ht _)
  · obtain ⟨o, ho, _, hd⟩ := hi.1
    exact ⟨o, ho, noTab_int hd rfl⟩
  · exact ⟨⟨_, Heap.get?_push_size _ rfl, rfl, rfl⟩, hl.at fun o e => Heap.get?_push_of_some _ e⟩
  · rintro i v m₁ news₁ h tk oI hoT hi hv ho hJ F N
    exact turn _ i v m₁ news₁ h tk oI hoT (by simpa using hi) (by simpa using hv) ho hJ F N
  · intro m₁ news₁ h tk hJ F N
    exact done m₁ news₁ h tk (by simpa using hJ) F N
end
end Mine
end
section
open PySem PySem.W PyProof.Rows PySem.Calls PySem.Spec
set_option Elab.async false
namespace Mine
/-- the end of a comprehension's turn: what is kept, and that the word holds of the new ledger -/
def CEnd (h₀ : Heap) (L : Addr) (m : Str → Option Value) (s₁ : Shared) (I : Addr) (oI : Obj) (C : Addr) (oC : Obj) (D : Addr) (oD : Obj) (S : List (Addr × Obj) → Prop) (J : Value → List (Addr × Obj) → Prop) (y : Value) (s₂ : Shared) : Prop :=
  ∃ h' tk news' all, s₂ = { s₁ with heap := h', toks := tk } ∧ Fr h₀ L h' m ∧ News h₀ L h' all ∧ (∀ p ∈ (I, oI) :: (C, oC) :: (D, oD) :: news', p ∈ all) ∧ LCg.Off3 I C D news' ∧ S news' ∧ J y news'
theorem CEnd.intro {h₀ : Heap} {L I C D : Addr} {m : Str → Option Value} {s₁ : Shared} {oI oC oD : Obj} {S : List (Addr × Obj) → Prop} {J : Value → List (Addr × Obj) → Prop} {y : Value} {h' : Heap} {tk : Nat} {all news' : List (Addr × Obj)}
    (F : Fr h₀ L h' m) (N : News h₀ L h' all) (sub : ∀ p ∈ (I, oI) :: (C, oC) :: (D, oD) :: news', p ∈ all) (off : LCg.Off3 I C D news') (hS : S news') (j : J y news') :
    CEnd h₀ L m s₁ I oI C oC D oD S J y { s₁ with heap := h', toks := tk } := ⟨h', tk, news', all, rfl, F, N, sub, off, hS, j⟩
theorem CEnd.comp {h₀ : Heap} {L I C D : Addr} {m : Str → Option Value} {s₁ s₂ : Shared} {oI oC oD : Obj} {S : List (Addr × Obj) → Prop} {J J' : Value → List (Addr × Obj) → Prop} {y : Value}
    (h : CEnd h₀ L m s₁ I oI C oC D oD S J y s₂) (hj : ∀ nw, J y nw → J' y nw) : LCg.CompEnd h₀ L m s₁ I oI C oC D oD S J' y s₂ := by
  obtain ⟨h', tk, news', all, rfl, F, N, sub, off, hS, j⟩ := h
  exact ⟨h', tk, news', rfl, F, fun p hp => N p (sub p hp), off, hS, hj _ j⟩
section
variable {prog : Program} {w : World} {A : Around} {s : Shared} {h₀ : Heap} {L : Addr} {m : Str → Option Value} {env : Env} {ct elt : Expr} {x : Str} {scope : Scope} {cl : List (Str × Addr)} {S : List (Addr × Obj) → Prop} {P : Nat → Value → Prop} {Fin : List Value → List (Addr × Obj) → Prop} {n : Nat} {news : List (Addr × Obj)}
/-- a comprehension without a test, by a word over what it has made -/
theorem restU (J : Nat → List Value → List (Addr × Obj) → Prop) (h0 : J 0 [] news) (fin : ∀ ys nw, J n ys nw → Fin ys nw)
    (turn : ∀ i v ys nw I oI C oC D m₂ h tk (E' : Value → Shared → Prop), i < n → P i v → J i ys nw → LCg.NsObj oC m₂ → m₂ x = some v → Fr h₀ L h m → News h₀ L h ((I, oI) :: (C, oC) :: (D, LCg.lst ys) :: nw) → LCg.Off3 I C D nw → ((@Ne Nat I C) ∧ (@Ne Nat I D) ∧ (@Ne Nat C D)) →
      wpAny (model prog w) A (eval elt (compEnvC scope cl C env)) (CEnd h₀ L m { s with heap := h, toks := tk } I oI C oC D (LCg.lst ys) S (fun y nw' => J (i + 1) (ys ++ [y]) nw')) E' { s with heap := h, toks := tk }) :
    LCg.CompRest prog w A h₀ L m env elt x scope cl s S P Fin n 0 [] news := by
  have key : ∀ k i ys nw, i + k = n → J i ys nw → LCg.CompRest prog w A h₀ L m env elt x scope cl s S P Fin k i ys nw := by
    intro k
    induction k with
    | zero => intro i ys nw e hJ; rw [show i = n by omega] at hJ; exact fin ys nw hJ
    | succ k ih =>
      intro i ys nw e hJ
      refine LCg.CompRest.succ fun v I oI C oC D m₂ h tk E' hP hC hx F N off ne => ?_
      exact wpAny_mono (turn i v ys nw I oI C oC D m₂ h tk E' (by omega) hP hJ hC hx F N off ne) (fun y s₂ h₂ => h₂.comp fun nw' hj => ih (i + 1) _ nw' (by omega) hj) fun _ _ e => e
  exact key n 0 [] news (by omega) h0
/-- a comprehension with one test -/
theorem restT (J : Nat → List Value → List (Addr × Obj) → Prop) (h0 : J 0 [] news) (fin : ∀ ys nw, J n ys nw → Fin ys nw)
    (turn : ∀ i v ys nw I oI C oC D m₂ h tk (E' : Value → Shared → Prop), i < n → P i v → J i ys nw → LCg.NsObj oC m₂ → m₂ x = some v → Fr h₀ L h m → News h₀ L h ((I, oI) :: (C, oC) :: (D, LCg.lst ys) :: nw) → LCg.Off3 I C D nw → ((@Ne Nat I C) ∧ (@Ne Nat I D) ∧ (@Ne Nat C D)) →
      wpAny (model prog w) A (isTrue ct (compEnvC scope cl C env) (eval ct (compEnvC scope cl C env))) (fun ok s' => if ok = true then
        wpAny (model prog w) A (eval elt (compEnvC scope cl C env)) (CEnd h₀ L m { s with heap := h, toks := tk } I oI C oC D (LCg.lst ys) S (fun y nw' => J (i + 1) (ys ++ [y]) nw')) E' s'
        else CEnd h₀ L m { s with heap := h, toks := tk } I oI C oC D (LCg.lst ys) S (fun _ nw' => J (i + 1) ys nw') Value.none s') E' { s with heap := h, toks := tk }) :
    LCt.CompRestT prog w A h₀ L m env ct elt x scope cl s S P Fin n 0 [] news := by
  have key : ∀ k i ys nw, i + k = n → J i ys nw → LCt.CompRestT prog w A h₀ L m env ct elt x scope cl s S P Fin k i ys nw := by
    intro k
    induction k with
    | zero => intro i ys nw e hJ; rw [show i = n by omega] at hJ; exact fin ys nw hJ
    | succ k ih =>
      intro i ys nw e hJ
      refine LCt.CompRestT.succ fun v I oI C oC D m₂ h tk E' hP hC hx F N off ne => ?_
      refine wpAny_mono (turn i v ys nw I oI C oC D m₂ h tk E' (by omega) hP hJ hC hx F N off ne) (fun ok s₂ h₂ => ?_) fun _ _ e => e
      cases ok with
      | true =>
        simp only [if_true] at h₂ ⊢
        exact wpAny_mono h₂ (fun y s₃ h₃ => h₃.comp fun nw' hj => ih (i + 1) _ nw' (by omega) hj) fun _ _ e => e
      | false =>
        simp only [Bool.false_eq_true, if_false] at h₂ ⊢
        exact h₂.comp fun nw' hj => ih (i + 1) _ nw' (by omega) hj
  exact key n 0 [] news (by omega) h0
/-- the same, the ledger's rest unchanged -/
def CEnd1 (h₀ : Heap) (L : Addr) (m : Str → Option Value) (s₁ : Shared) (I : Addr) (oI : Obj) (C : Addr) (oC : Obj) (D : Addr) (oD : Obj) (news : List (Addr × Obj)) (J : Value → Prop) (y : Value) (s₂ : Shared) : Prop :=
  ∃ h' tk all, s₂ = { s₁ with heap := h', toks := tk } ∧ Fr h₀ L h' m ∧ News h₀ L h' all ∧ (∀ p ∈ (I, oI) :: (C, oC) :: (D, oD) :: news, p ∈ all) ∧ J y
theorem CEnd1.intro {h₀ : Heap} {L I C D : Addr} {m : Str → Option Value} {s₁ : Shared} {oI oC oD : Obj} {J : Value → Prop} {y : Value} {h' : Heap} {tk : Nat} {all news : List (Addr × Obj)}
    (F : Fr h₀ L h' m) (N : News h₀ L h' all) (sub : ∀ p ∈ (I, oI) :: (C, oC) :: (D, oD) :: news, p ∈ all) (j : J y) :
    CEnd1 h₀ L m s₁ I oI C oC D oD news J y { s₁ with heap := h', toks := tk } := ⟨h', tk, all, rfl, F, N, sub, j⟩
theorem CEnd1.to {h₀ : Heap} {L I C D : Addr} {m : Str → Option Value} {s₁ s₂ : Shared} {oI oC oD : Obj} {S : List (Addr × Obj) → Prop} {J : Value → Prop} {y : Value} {news : List (Addr × Obj)}
    (h : CEnd1 h₀ L m s₁ I oI C oC D oD news J y s₂) (off : LCg.Off3 I C D news) (hS : S news) : CEnd h₀ L m s₁ I oI C oC D oD S (fun y nw => nw = news ∧ J y) y s₂ := by
  obtain ⟨h', tk, all, rfl, F, N, sub, j⟩ := h
  exact ⟨h', tk, news, all, rfl, F, N, sub, off, hS, rfl, j⟩
theorem restU1 (J : Nat → List Value → Prop) (hS : S news) (h0 : J 0 []) (fin : ∀ ys, J n ys → Fin ys news)
    (turn : ∀ i v ys I oI C oC D m₂ h tk (E' : Value → Shared → Prop), i < n → P i v → J i ys → LCg.NsObj oC m₂ → m₂ x = some v → Fr h₀ L h m → News h₀ L h ((I, oI) :: (C, oC) :: (D, LCg.lst ys) :: news) → LCg.Off3 I C D news → ((@Ne Nat I C) ∧ (@Ne Nat I D) ∧ (@Ne Nat C D)) →
      wpAny (model prog w) A (eval elt (compEnvC scope cl C env)) (CEnd1 h₀ L m { s with heap := h, toks := tk } I oI C oC D (LCg.lst ys) news (fun y => J (i + 1) (ys ++ [y]))) E' { s with heap := h, toks := tk }) :
    LCg.CompRest prog w A h₀ L m env elt x scope cl s S P Fin n 0 [] news := by
  refine restU (fun i ys nw => nw = news ∧ J i ys) ⟨rfl, h0⟩ (fun ys nw ⟨e, hJ⟩ => e ▸ fin ys hJ) ?_
  rintro i v ys nw I oI C oC D m₂ h tk E' hi hP ⟨rfl, hJ⟩ hC hx F N off ne
  exact wpAny_mono (turn i v ys I oI C oC D m₂ h tk E' hi hP hJ hC hx F N off ne) (fun y s₂ h₂ => h₂.to off hS) fun _ _ e => e
theorem restT1 (J : Nat → List Value → Prop) (hS : S news) (h0 : J 0 []) (fin : ∀ ys, J n ys → Fin ys news)
    (turn : ∀ i v ys I oI C oC D m₂ h tk (E' : Value → Shared → Prop), i < n → P i v → J i ys → LCg.NsObj oC m₂ → m₂ x = some v → Fr h₀ L h m → News h₀ L h ((I, oI) :: (C, oC) :: (D, LCg.lst ys) :: news) → LCg.Off3 I C D news → ((@Ne Nat I C) ∧ (@Ne Nat I D) ∧ (@Ne Nat C D)) →
      wpAny (model prog w) A (isTrue ct (compEnvC scope cl C env) (eval ct (compEnvC scope cl C env))) (fun ok s' => if ok = true then
        wpAny (model prog w) A (eval elt (compEnvC scope cl C env)) (CEnd1 h₀ L m { s with heap := h, toks := tk } I oI C oC D (LCg.lst ys) news (fun y => J (i + 1) (ys ++ [y]))) E' s'
        else CEnd1 h₀ L m { s with heap := h, toks := tk } I oI C oC D (LCg.lst ys) news (fun _ => J (i + 1) ys) Value.none s') E' { s with heap := h, toks := tk }) :
    LCt.CompRestT prog w A h₀ L m env ct elt x scope cl s S P Fin n 0 [] news := by
  refine restT (fun i ys nw => nw = news ∧ J i ys) ⟨rfl, h0⟩ (fun ys nw ⟨e, hJ⟩ => e ▸ fin ys hJ) ?_
  rintro i v ys nw I oI C oC D m₂ h tk E' hi hP ⟨rfl, hJ⟩ hC hx F N off ne
  refine wpAny_mono (turn i v ys I oI C oC D m₂ h tk E' hi hP hJ hC hx F N off ne) (fun ok s₂ h₂ => ?_) fun _ _ e => e
  cases ok with
  | true =>
    simp only [if_true] at h₂ ⊢
    exact wpAny_mono h₂ (fun y s₃ h₃ => h₃.to off hS) fun _ _ e => e
  | false =>
    simp only [Bool.false_eq_true, if_false] at h₂ ⊢
    exact h₂.to off hS
end
theorem off1_of {D : Addr} : ∀ {R : List (Addr × Obj)}, LCg.Off1 D R → OwnOff R [D]
  | [], _ => fun _ h => nomatch h
  | q :: R, h => fun p hp a ha => by
    rcases List.mem_cons.mp hp with rfl | hp
    · rw [List.mem_singleton.mp ha]; exact h.1
    · exact off1_of h.2 p hp a ha
theorem ints_at {vs : List Value} {ks : List Int} (h : IntsAre vs ks) : ∀ {i : Nat} {v : Value}, vs.toArray[i]? = some v → ∃ k t, v = .int k t ∧ ks[i]? = some k ∧ ks.take (i + 1) = ks.take i ++ [k] := by
  induction h with
  | nil => intro i v hv; simp at hv
  | cons k t _ ih =>
    intro i v hv
    cases i with
    | zero => simp at hv; subst hv; exact ⟨k, t, rfl, rfl, by simp⟩
    | succ i =>
      obtain ⟨k', t', e1, e2, e3⟩ := ih (i := i) (v := v) (by simpa using hv)
      exact ⟨k', t', e1, by simpa using e2, by simp [e3]⟩
theorem bytes_at {vs : List Value} {ks : List (Array UInt8)} (h : BytesAre vs ks) : ∀ {i : Nat} {v : Value}, vs.toArray[i]? = some v → ∃ k t, v = .bytes k t ∧ ks[i]? = some k ∧ ks.take (i + 1) = ks.take i ++ [k] := by
  induction h with
  | nil => intro i v hv; simp at hv
  | cons k t _ ih =>
    intro i v hv
    cases i with
    | zero => simp at hv; subst hv; exact ⟨k, t, rfl, rfl, by simp⟩
    | succ i =>
      obtain ⟨k', t', e1, e2, e3⟩ := ih (i := i) (v := v) (by simpa using hv)
      exact ⟨k', t', e1, by simpa using e2, by simp [e3]⟩
theorem filt_yes {p : Int → Bool} {ks : List Int} {i : Nat} {k : Int} {ys : List Value} {t : Tok} (h : IntsAre ys ((ks.take i).filter p)) (e : ks.take (i + 1) = ks.take i ++ [k]) (hp : p k = true) : IntsAre (ys ++ [.int k t]) ((ks.take (i + 1)).filter p) := by
  rw [e, List.filter_append, List.filter_cons_of_pos hp, List.filter_nil]; exact ints_snoc h _ _
theorem filt_no {p : Int → Bool} {ks : List Int} {i : Nat} {k : Int} {ys : List Value} (h : IntsAre ys ((ks.take i).filter p)) (e : ks.take (i + 1) = ks.take i ++ [k]) (hp : p k = false) : IntsAre ys ((ks.take (i + 1)).filter p) := by
  rw [e, List.filter_append, List.filter_cons_of_neg (by simp [hp]), List.filter_nil, List.append_nil]; exact h
section
variable {prog : Program} {w : World} {A : Around} {E : Value → Shared → Prop} {s : Shared} {h₀ : Heap} {L D : Addr} {m : Str → Option Value} {news : List (Addr × Obj)} {upd : Obj → List (Addr × Obj)} {n : Nat} {x y v : Value} {t : Tok} {Q : Unit → Shared → Prop}
theorem set_two0 (F : Fr h₀ L s.heap m) (N : News h₀ L s.heap news) (U : UpdF D (listOf #[x, y] n) news upd)
    (h : ∀ h', Fr h₀ L h' m → News h₀ L h' (upd (listOf #[v, y] n)) → Q () { s with heap := h' }) : wpAny (model prog w) A (setItem (.ref D) (.int 0 t) v) Q E s := by
  obtain ⟨pre, post, rfl, hu, a, b⟩ := U.split
  have z := N (D, listOf #[x, y] n) (List.mem_append.mpr (.inr (.head _)))
  exact ki_setAt z.1 (by decide) (by decide) (by show (0 : Int) < ((2 : Nat) : Int); decide) (h _ (F.change (Heap.SameBut.update ..) z.2.1 z.2.2) (by rw [hu]; exact ki_turn _ N a b rfl rfl))
theorem set_two1 (F : Fr h₀ L s.heap m) (N : News h₀ L s.heap news) (U : UpdF D (listOf #[x, y] n) news upd)
    (h : ∀ h', Fr h₀ L h' m → News h₀ L h' (upd (listOf #[x, v] n)) → Q () { s with heap := h' }) : wpAny (model prog w) A (setItem (.ref D) (.int 1 t) v) Q E s := by
  obtain ⟨pre, post, rfl, hu, a, b⟩ := U.split
  have z := N (D, listOf #[x, y] n) (List.mem_append.mpr (.inr (.head _)))
  exact ki_setAt z.1 (by decide) (by decide) (by show (1 : Int) < ((2 : Nat) : Int); decide) (h _ (F.change (Heap.SameBut.update ..) z.2.1 z.2.2) (by rw [hu]; exact ki_turn _ N a b rfl rfl))
end
/-- the table's codes ahead, the rest behind -/
theorem mid_T {h₀ h : Heap} {L : Addr} {pre R' T R : List (Addr × Obj)} (N : News h₀ L h (pre ++ R')) (hR : R' = T ++ R) : News h₀ L h (T ++ (pre ++ R)) := news_sub N fun q hq => by
  subst hR
  simp only [List.mem_append] at hq ⊢
  rcases hq with h | h | h <;> simp [h]
theorem off_app {R R' : List (Addr × Obj)} {as : List Addr} (h : OwnOff R as) (h' : OwnOff R' as) : OwnOff (R ++ R') as := fun q hq => (List.mem_append.mp hq).elim (h q) (h' q)
theorem off_sub {R : List (Addr × Obj)} {as bs : List Addr} (h : OwnOff R as) (hs : ∀ b ∈ bs, b ∈ as) : OwnOff R bs := fun q hq b hb => h q hq b (hs b hb)
theorem news_tail {h₀ h : Heap} {L : Addr} {a : Addr × Obj} {l : List (Addr × Obj)} (N : News h₀ L h (a :: l)) : News h₀ L h l := fun p hp => N p (List.mem_cons_of_mem _ hp)
theorem mid_back {h₀ h : Heap} {L : Addr} {a b c : Addr × Obj} {pre R' T R : List (Addr × Obj)} (N : News h₀ L h (a :: b :: c :: (T ++ (pre ++ R)))) (hR : R' = T ++ R) : News h₀ L h (a :: b :: c :: (pre ++ R')) := news_sub N fun q hq => by
  subst hR
  simp only [List.mem_cons, List.mem_append] at hq ⊢
  rcases hq with h | h | h | h | h | h <;> simp [h]
def NoFld (o : Obj) : Prop := ∀ vs, o.data ≠ .fields vs
theorem noFld_seq {o : Obj} {vs : Array Value} {n : Nat} (h : o.data = .seq vs n) : NoFld o := fun _ e => by rw [h] at e; cases e
theorem noFld_cell {o : Obj} {v : Option Value} (h : o.data = .cell v) : NoFld o := fun _ e => by rw [h] at e; cases e
theorem noFld_dict {o : Obj} {es : Array DictEntry} {n : Nat} (h : o.data = .dict es n) : NoFld o := fun _ e => by rw [h] at e; cases e
theorem neP {h₀ h : Heap} {L a P : Addr} {X : List (Addr × Obj)} {o : Obj} {ps : Array Value} (N : News h₀ L h X) (hp : (P, tabObj ps) ∈ X) (hm : (a, o) ∈ X) (hd : NoFld o) : @Ne Nat a P := fun e => by
  have e1 := (N _ hp).1
  have e2 := (N _ hm).1
  dsimp only at e1 e2
  rw [e] at e2
  exact hd _ (by rw [Option.some.inj (e2.symm.trans e1)])
theorem tab_offK {h₀ h : Heap} {L a P : Addr} {X T : List (Addr × Obj)} {o : Obj} {i j : Value} {qual : Str} (N : News h₀ L h X) (hT : Tab P i j qual T) (hs : ∀ e ∈ T, e ∈ X) (hm : (a, o) ∈ X) (hn : NoFld o) : OwnOff T [a] := by
  obtain ⟨ps, hp⟩ := hT.mem
  exact tab_off N hT hs hm (fun vs q t e => absurd e (hn vs)) (neP N (hs _ hp) hm hn).symm
section
variable {prog : Program} {w : World} {A : Around} {E : Value → Shared → Prop} {s : Shared} {h₀ : Heap} {L D b : Addr} {m : Str → Option Value} {news : List (Addr × Obj)} {upd : Obj → List (Addr × Obj)} {n n2 : Nat} {vs ws : List Value} {Q : Value → Shared → Prop}
theorem extend_list (F : Fr h₀ L s.heap m) (N : News h₀ L s.heap news) (hb : (b, listOf ws.toArray n2) ∈ news) (U : UpdF D (listOf vs.toArray n) news upd) (hz : vs.length + ws.length ≤ 1000000)
    (h : ∀ h' n', Fr h₀ L h' m → News h₀ L h' (upd (listOf (vs ++ ws).toArray n')) → Q .none { s with heap := h' }) : wpAny (model prog w) A (call (.builtin "list.extend") [.ref D, .ref b]) Q E s := by
  obtain ⟨pre, post, rfl, hu, a, c⟩ := U.split
  have z := N (D, listOf vs.toArray n) (List.mem_append.mpr (.inr (.head _)))
  have hl : Builtin.List.listTooLong (vs.toArray.size + ws.toArray.size) = false := by
    unfold Builtin.List.listTooLong
    simp only [List.size_toArray]
    have := sizeLine_eq
    simp; omega
  refine call_meets PySem.F.slot_list_extend ⟨_, z.1, rfl⟩ PySem.F.entry_list_extend (PySem.F.args_list_extend_2 _ _) (PySem.AutoSeq1.list_extend_list_list_0 D vs.toArray n b ws.toArray n2 (by rw [hl]; simp) (by rw [sizeLine_eq, List.size_toArray]; omega) (by rw [sizeLine_eq, List.size_toArray, List.size_toArray]; omega)) ⟨z.1, (N _ hb).1, h _ _ (F.change (Heap.SameBut.update ..) z.2.1 z.2.2) (by rw [hu]; exact ki_turn _ N a c (by simp) rfl)⟩
end
end Mine
end
section
open PySem PySem.W PyProof.Rows PySem.Calls PySem.Spec PySem.Builtin
set_option Elab.async false
set_option maxRecDepth 100000
namespace Mine
def latin (b : Array UInt8) : Str := ⟨b.map UInt8.toNat⟩
def latP (b : Array UInt8) (p : Nat) : Array Nat := ((b.toList.take p).map UInt8.toNat).toArray
theorem latP_size (b : Array UInt8) (p : Nat) : (latP b p).size = min p b.size := by simp [latP]
theorem latP_next {b : Array UInt8} {p : Nat} (h : p < b.size) : latP b p ++ [(b.getD p 0).toNat].toArray = latP b (p + 1) := by
  unfold latP
  have h' : p < b.toList.length := by simpa using h
  rw [List.take_add_one, List.getElem?_eq_getElem h']
  simp [Array.getD, h]
theorem latP_all (b : Array UInt8) : latP b b.size = b.map UInt8.toNat := by
  unfold latP
  rw [List.take_of_length_le (by simp), ← Array.toList_map, Array.toArray_toList]
theorem lat_loop {σ : Type} (b : Array UInt8) (st : σ) (f : Nat → Nat × Array Nat × σ → Sem (ForInStep (Nat × Array Nat × σ)))
    (hf : ∀ x p, p < b.size → f x (p, latP b p, st) = pure (.yield (p + 1, latP b (p + 1), st))) :
    ∀ n i p, p + n = b.size → forIn (List.range' i n 1) (p, latP b p, st) f = pure (b.size, latP b b.size, st) := by
  intro n
  induction n with
  | zero => intro i p h; rw [show p = b.size by omega]; rfl
  | succ n ih =>
    intro i p h
    rw [List.range'_succ, List.forIn_cons, hf i p (by omega), pure_bind]
    exact ih (i + 1) (p + 1) (by omega)
theorem run_lat (id : String) (b : Array UInt8) (hb : b.size ≤ 1000000) : _codecs.runDecoder id _codecs.latin1Decoder none true b 0 [] = pure (b.map UInt8.toNat, b.size) := by
  unfold _codecs.runDecoder
  dsimp only
  rw [Std.Legacy.Range.forIn_eq_forIn_range']
  have hsz : ([:b.size] : Std.Legacy.Range).size = b.size := by simp [Std.Legacy.Range.size]
  rw [hsz]
  have h0 : (#[] : Array Nat) = latP b 0 := rfl
  rw [h0]
  rw [lat_loop b]
  · rw [pure_bind, latP_all]
  · intro x p hp
    dsimp only
    rw [if_neg (by rw [latP_size, sizeLine_eq]; omega), if_neg (by omega)]
    show pure (ForInStep.yield (p + 1, latP b p ++ [(b.getD p 0).toNat].toArray, _)) = _
    rw [latP_next hp]
  · omega
theorem road_lat {id : String} {b : Array UInt8} : _codecs.decodeRoad id b (PySem.Str.ofString "latin-1") none [] = (_codecs.runDecoder id _codecs.latin1Decoder none true b 0 [] >>= fun r => mkStr ⟨r.1⟩) := by kernel_rfl
theorem meets_lat_text {b : Array UInt8} {t t1 t2 : Tok} {d : PySem.Str} (hb : b.size ≤ 1000000) :
    Meets («_codecs.decode.text» ⟨[.bytes b t, .str (PySem.Str.ofString "latin-1") t1, .none, .str d t2], []⟩) (fun _ R s => R (.ok (.ret (.str (latin b) s.toks))) { s with toks := s.toks + 1 }) := by
  refine .of_wp fun prog w A R s h => ?_
  show wpAny _ _ (Bytes.bytesLike _ (.bytes b t) >>= fun r => _) _ _ s
  refine wpAny_bind (wpAny_of_eq KBd.like_eq ?_)
  refine wpAny_bind (wpAny_of_eq KBd.held_eq ?_)
  show wpAny _ _ (_codecs.decodeRoad _ b (PySem.Str.ofString "latin-1") none [] >>= fun v => _) _ _ s
  rw [road_lat, run_lat _ _ hb]
  refine wpAny_bind (wpAny_bind (wpAny_pure ?_))
  exact wpAny_mkStr (x := latin b) (wpAny_pure ⟨_, rfl, h⟩) (by show (b.map UInt8.toNat).size ≤ _; rw [Array.size_map, sizeLine_eq]; omega)
theorem entry_lat {c : UInt8} {cs : List UInt8} {t u : Tok} : «bytes.decode» ⟨[.bytes (c :: cs).toArray t, .str (PySem.Str.ofString "latin-1") u], []⟩ = (mkStr (PySem.Str.ofString "utf-8") >>= fun _ => mkStr (PySem.Str.ofString "latin-1") >>= fun e => mkStr (PySem.Str.ofString "bytes.decode") >>= fun d =>
    call (.builtin "_codecs.decode.text") [.bytes (c :: cs).toArray t, e, .none, d] >>= fun v => ret v) := by kernel_rfl
theorem entry_lat0 {t u : Tok} : «bytes.decode» ⟨[.bytes #[] t, .str (PySem.Str.ofString "latin-1") u], []⟩ = (rule "bytes.decode.empty" >>= fun _ => mkStr Str.empty >>= fun v => ret v) := by kernel_rfl
theorem meets_lat {b : Array UInt8} {t u : Tok} (hb : b.size ≤ 1000000) :
    Meets («bytes.decode» ⟨[.bytes b t, .str (PySem.Str.ofString "latin-1") u], []⟩) (fun _ R s => ∀ t' k, R (.ok (.ret (.str (latin b) t'))) { s with toks := k }) := by
  refine .of_wp fun prog w A R s h => ?_
  obtain ⟨l⟩ := b
  cases l with
  | nil =>
    rw [entry_lat0]
    refine wpAny_bind (wpAny_rule ?_)
    refine wpAny_bind (wpAny_mkStr ?_ (by decide))
    have e : latin #[] = Str.empty := by unfold latin; rw [Array.map_empty]; rfl
    rw [e] at h
    exact wpAny_pure ⟨_, rfl, h _ _⟩
  | cons c cs =>
    rw [entry_lat]
    refine wpAny_bind (wpAny_mkStr ?_ (by decide))
    refine wpAny_bind (wpAny_mkStr ?_ (by decide))
    refine wpAny_bind (wpAny_mkStr ?_ (by decide))
    exact wpAny_bind (call_function_meets KBd.kind_text KBd.plain_text KBd.entry_text (KBd.args_text _ _ _ _) (meets_lat_text hb) (wpAny_pure ⟨_, rfl, h _ _⟩))
theorem args_bytes_decode_2 (a b : Value) : argsOk "bytes.decode" ⟨[a, b], []⟩ := by
  unfold argsOk; rw [signature?_of (id := "bytes.decode") (n := ['e', 'd', 'o', 'c', 'e', 'd']) (o := ['s', 'e', 't', 'y', 'b']) (by kernel_rfl) FB.owner_bytes]; kernel_rfl
theorem decode_lat {prog : Program} {w : World} {A : Around} {E : Value → Shared → Prop} {s : Shared} {b : Array UInt8} {t u : Tok} {Q : Value → Shared → Prop} (hb : b.size ≤ 1000000) (h : ∀ t' k, Q (.str (latin b) t') { s with toks := k }) :
    wpAny (model prog w) A (call (.builtin "bytes.decode") [.bytes b t, .str (PySem.Str.ofString "latin-1") u]) Q E s :=
  call_meets FB.slot_bytes_decode (typeIs_bytes _ _ _) FB.entry_bytes_decode (args_bytes_decode_2 _ _) (meets_lat hb) h
end Mine
end
section
open PySem PySem.W PyProof.Rows PySem.Calls PySem.Spec
set_option Elab.async false
namespace Mine
/-- items: texts (true) or bytes (false) of octets -/
inductive ItsAre : List Value → List (Bool × Array UInt8) → Prop where
  | nil : ItsAre [] []
  | str (b : Array UInt8) (t : Tok) {vs bs} : ItsAre vs bs → ItsAre (.str (latin b) t :: vs) ((true, b) :: bs)
  | byt (b : Array UInt8) (t : Tok) {vs bs} : ItsAre vs bs → ItsAre (.bytes b t :: vs) ((false, b) :: bs)
theorem ItsAre.length {vs : List Value} {bs : List (Bool × Array UInt8)} (x : ItsAre vs bs) : vs.length = bs.length := by
  induction x with
  | nil => rfl
  | str _ _ _ ih => simp [ih]
  | byt _ _ _ ih => simp [ih]
theorem ItsAre.append {vs ws : List Value} {bs cs : List (Bool × Array UInt8)} (x : ItsAre vs bs) (y : ItsAre ws cs) : ItsAre (vs ++ ws) (bs ++ cs) := by
  induction x with
  | nil => exact y
  | str b t _ ih => exact .str b t ih
  | byt b t _ ih => exact .byt b t ih
theorem ItsAre.strs {vs : List Value} {bs : List (Bool × Array UInt8)} (x : ItsAre vs bs) (b : Array UInt8) (t : Tok) : ItsAre (vs ++ [.str (latin b) t]) (bs ++ [(true, b)]) := x.append (.str b t .nil)
theorem ItsAre.byts {vs : List Value} {bs : List (Bool × Array UInt8)} (x : ItsAre vs bs) (b : Array UInt8) (t : Tok) : ItsAre (vs ++ [.bytes b t]) (bs ++ [(false, b)]) := x.append (.byt b t .nil)
theorem SameL.its {h : Heap} {n : Nat} {vs ws : List Value} {ns : List (Bool × Array UInt8)} (a : ItsAre vs ns) (b : ItsAre ws ns) : SameL h n vs ws := by
  induction a generalizing ws with
  | nil => cases b; exact .nil
  | str k t _ ih => cases b with | str _ u r => exact .cons (.str _ t u) (ih r)
  | byt k t _ ih => cases b with | byt _ u r => exact .cons (.bytes _ t u) (ih r)
theorem ints_get {vs : List Value} {ks : List Int} (h : IntsAre vs ks) : ∀ {i : Nat}, i < vs.length → ∃ t, vs[i]? = some (.int (ks.getD i 0) t) := by
  induction h with
  | nil => intro i hi; simp at hi
  | cons k t _ ih =>
    intro i hi
    cases i with
    | zero => exact ⟨t, by simp⟩
    | succ i => obtain ⟨t', e⟩ := ih (i := i) (by simpa using hi); exact ⟨t', by simpa using e⟩
section
variable {prog : Program} {w : World} {A : Around} {E : Value → Shared → Prop} {s : Shared} {h₀ : Heap} {L : Addr} {news : List (Addr × Obj)} {D : Addr} {vs : List Value} {ks : List Int} {n : Nat} {k : Int} {u : Tok} {value slice : Expr} {Q : Value → Shared → Prop}
theorem item_at (N : News h₀ L s.heap news) (hm : (D, listOf vs.toArray n) ∈ news) (hi : IntsAre vs ks) (h0 : 0 ≤ k) (h1 : k < vs.length) (h2 : vs.length ≤ 1000000)
    (h : ∀ t, Q (.int (ks.getD k.toNat 0) t) s)
    (hs : subscripted slice false (.ref D) (.int k u) = operate [.ref D, .int k u] (getItem (.ref D) (.int k u)) := by with_unfolding_all rfl) :
    wpAny (model prog w) A (subscriptTail value slice (.ref D) (.int k u)) Q E s := by
  obtain ⟨t, e⟩ := ints_get hi (i := k.toNat) (by omega)
  exact tail_any (isList_at N hm).typeIs slot_list_getitem.lookup (wpAny_getItem_list (isList_at N hm) h0 (by omega) (by simpa using e) (h t)) hs
end
end Mine
namespace Mine
open PySem PySem.W PyProof.Rows PySem.Calls PySem.Spec
theorem ints_last {vs : List Value} {pre : List Int} {x : Int} (h : IntsAre vs (pre ++ [x])) : ∃ ws t, vs = ws ++ [.int x t] ∧ IntsAre ws pre := by
  induction pre generalizing vs with
  | nil => cases h with | cons _ t r => cases r; exact ⟨[], t, rfl, .nil⟩
  | cons a pre ih =>
    cases h with
    | cons _ t r =>
      obtain ⟨ws, t', e, hi⟩ := ih r
      exact ⟨.int a t :: ws, t', by rw [e]; rfl, .cons _ _ hi⟩
theorem last_at {prog : Program} {w : World} {A : Around} {E : Value → Shared → Prop} {s : Shared} {h₀ : Heap} {L : Addr} {news : List (Addr × Obj)} {D : Addr} {vs : List Value} {x : Value} {n : Nat} {u : Tok} {value slice : Expr} {Q : Value → Shared → Prop}
    (N : News h₀ L s.heap news) (hm : (D, listOf (vs ++ [x]).toArray n) ∈ news) (h : Q x s)
    (hs : subscripted slice false (.ref D) (.int (-1) u) = operate [.ref D, .int (-1) u] (getItem (.ref D) (.int (-1) u)) := by with_unfolding_all rfl) :
    wpAny (model prog w) A (subscriptTail value slice (.ref D) (.int (-1) u)) Q E s := by
  have e : ((-1 : Int) + ((vs ++ [x]).toArray.size : Int)).toNat = vs.length := by simp; omega
  exact tail_any (isList_at N hm).typeIs slot_list_getitem.lookup (wpAny_getItem_list_neg (isList_at N hm) (by decide) (by simp; omega) (by decide) (by rw [e]; simp) h) hs
end Mine
end
section
open PySem PySem.W PyProof.Rows PySem.Calls PySem.Spec
set_option Elab.async false
namespace Mine
def NoFldL (l : List (Addr × Obj)) : Prop := ∀ e ∈ l, NoFld e.2
theorem noFldL_nil : NoFldL [] := fun _ h => nomatch h
theorem noFldL_cons {a : Addr} {o : Obj} {l : List (Addr × Obj)} (h : NoFld o) (hs : NoFldL l) : NoFldL ((a, o) :: l) := fun e he => by
  rcases List.mem_cons.mp he with rfl | he
  · exact h
  · exact hs e he
theorem offP {h₀ h : Heap} {L P : Addr} {pre R' T R : List (Addr × Obj)} {ps : Array Value} (N : News h₀ L h (pre ++ R')) (hR : R' = T ++ R) (hp : (P, tabObj ps) ∈ T) (hn : NoFldL pre) (hr : OwnOff R [P]) : OwnOff (pre ++ R) [P] := fun q hq c hc => by
  rcases List.mem_append.mp hq with hq | hq
  · rw [List.mem_singleton.mp hc]; exact neP (ps := ps) N (by rw [hR]; exact List.mem_append_right _ (List.mem_append_left _ hp)) (List.mem_append_left _ hq) (hn q hq)
  · exact hr q hq c hc
theorem offR {h₀ h : Heap} {L P : Addr} {X R : List (Addr × Obj)} {ps : Array Value} (N : News h₀ L h X) (hp : (P, tabObj ps) ∈ X) (hs : ∀ e ∈ R, e ∈ X) (hn : NoFldL R) : OwnOff R [P] := fun q hq c hc => by
  rw [List.mem_singleton.mp hc]; exact neP (ps := ps) N hp (hs q hq) (hn q hq)
end Mine
end
section
open PySem PySem.W PyProof.Rows PySem.Calls PySem.Spec
set_option Elab.async false
namespace Mine
section
variable {prog : Program} {w : World} {A₀ A : Around} {s : Shared} {base h₀ : Heap} {L a : Addr} {m : Str → Option Value} {cn : Str} {cs : Scope} {ccd : Value} {cl : List (Str × Addr)} {outer : List Env} {news : List (Addr × Obj)} {K : Frag} {p : Program} {loose : List Str} {mean : ExcName → Option Value} {mg mb : Str → Option Value}
    {R : Result → Shared → Prop} {name qual : Str} {params : Arguments} {body : List Stmt} {scope : Scope} {dV kV doc pm cdv ct oc : Value} {an od : Option Addr} {osl : Array (Option Value)} {f : Addr} {args : Args} {binds : List (Str × Value)}
/-- the way into a def with cells and a try beneath it, from a caller right beneath the base -/
theorem code_defCS {env : Env} (B : Below A₀ base [] h₀) (F : Fr h₀ L s.heap m) (X₀ : K.In h₀) (N : News h₀ L s.heap news) (T : Top p loose mean mg mb h₀) (hA : A.frames = some [env]) (hf : env.frame = some L) (hke : env.scope.kind = .function)
    (ho : K.lookup f = some ⟨oc, od, .func (fnOf name qual params body scope dV kV doc pm an cdv ct), osl⟩) (hcd : codeIn K cdv qual = true) (hroom : A.depth < recursionLimit)
    (hbind : BindsTo s (fnOf name qual params body scope dV kV doc pm an cdv ct) args binds) (hkind : (binds.all fun y => scope.names.lookup y.1 == some .local || scope.names.lookup y.1 == some .cell) = true)
    (hnd : ((cellsFrom 0 scope.names []).map (·.1)).Nodup)
    (h : ∀ g L' h₁ tk cells, Fr h₀ L g m → Fr g L' h₁ (bindL (envOfC qual scope L' f cdv).kindOf binds fun _ => none) → News g L' h₁ (cells ++ news) →
      CellsAre (bindC (envOfC qual scope L' f cdv).kindOf binds fun _ => none) (cellsFrom (L' + 1) scope.names []) cells → Below A base [env] g → K.In g → Top p loose mean mg mb g → KtsDicts ([env].filterMap (·.frame)) g → (∀ p ∈ news, p.1 < L') →
      wpAny (model prog w) (A.deeper (envOfC qual scope L' f cdv)) (execs body (envOfC qual scope L' f cdv))
        (fun fl s' => LeaveS0 ([env].filterMap (·.frame)) h₀ L m g R (match fl with | .ret v => v | _ => .none) s')
        (fun e s' => wpAny (model prog w) (A.deeper (envOfC qual scope L' f cdv)) (leaving (envOfC qual scope L' f cdv) e) (fun _ s'' => R (.error e) s'') (fun e' s'' => R (.error e') s'') s')
        { s with heap := h₁, toks := tk })
    (hco : scope.isCoroutine = false) (hgen : scope.isGenerator = false) (hk : scope.kind = .function) : codeAny (model prog w) A (.call (.ref f) args) R s := by
  have X := X₀.keeps F.keep
  obtain ⟨FG, BG, st, -⟩ := groundX (R := R) B F N hA hf hke
  have D : KtsDicts ([env].filterMap (·.frame)) (hideAll s.heap (news.map (·.1))) := fun b hb => by
    obtain ⟨oL, es, ep, hL, hLd, _⟩ := FG.ns
    have e : b = L := by
      simp only [List.filterMap_cons, hf, List.filterMap_nil] at hb
      exact List.mem_singleton.mp hb
    rw [e]; exact ⟨oL, es, ep, hL, hLd⟩
  refine codeAny_call_function hroom (X _ _ ho) rfl hco hgen rfl (codeRec_of X hcd) (hbind _ _ _ _ ?_)
  refine wpAny_newFunctionEnv_cells hk (kindsX hkind _) fun env' he s' x => ?_
  subst he
  refine ⟨(T.nolimit.keeps F.keep).keeps x.toInCall.keep, codeAny_func ?_⟩
  obtain ⟨h₁, tk, rfl, _⟩ := x.done
  have hk₁ := x.toInCall.keep
  obtain ⟨cells, NC, Y⟩ := Cl.news (h₀ := s.heap) (Nat.le_refl _) fun n c hm => ⟨x.cell n c (lookup_of_mem_nodup (cellsFrom_names scope.names 0 (s.heap.objs.size + 1) [] [] rfl ▸ hnd) hm), x.above n c hm⟩
  refine wpAny_mono (h _ s.heap.objs.size h₁ tk cells FG ⟨x.toInCall.ns, fun b o e => hk₁ b o (of_hideAll _ e), Nat.le_of_eq (hideAll_size _ _)⟩ (fun p hp => ?_) Y BG (X₀.keeps st) (T.keeps st) D (fun p hp => Heap.lt_size (N p hp).1)) (fun fl s' hl => ?_) fun _ _ y => y
  · rcases List.mem_append.mp hp with hp | hp
    · refine ⟨(NC p hp).1, (NC p hp).2.1, ?_⟩
      cases q : (hideAll s.heap (news.map (·.1))).get? p.1 with
      | none => rfl
      | some o => have := of_hideAll _ q; rw [(NC p hp).2.2] at this; cases this
    · exact ⟨hk₁ _ _ (N p hp).1, Nat.ne_of_lt (Heap.lt_size (N p hp).1), hideAll_none _ (List.mem_map_of_mem hp)⟩
  · obtain ⟨g', L', m', news', T', F', N', k⟩ := hl
    have T'' : KtsTurn [L] (hideAll s.heap (news.map (·.1))) g' := by
      have e : [env].filterMap (·.frame) = [L] := by simp only [List.filterMap_cons, hf, List.filterMap_nil]
      rw [← e]; exact T'
    obtain ⟨a1, a2⟩ := back_turn FG T'' F' N'
    exact k a1 a2
/-- the way into a def with a try, from any caller that may hold cells: without a turn, or with the ground turned -/
theorem code_defSY (B : Below A₀ base outer h₀) (F : Fr h₀ L s.heap m) (X₀ : K.In h₀) (N : News h₀ L s.heap news) (T : Top p loose mean mg mb h₀) (XB : K.In base) (TB : Top p loose mean mg mb base) (D : KtsDicts (outer.filterMap (·.frame)) h₀)
    (hA : A.frames = some (envX cn cs L a ccd cl :: outer))
    (ho : K.lookup f = some ⟨oc, od, .func (fnOf name qual params body scope dV kV doc pm an cdv ct), osl⟩) (hcd : codeIn K cdv qual = true) (hroom : A.depth < recursionLimit)
    (hbind : BindsTo s (fnOf name qual params body scope dV kV doc pm an cdv ct) args binds) (hloc : ∀ y ∈ binds, scope.names.lookup y.1 = some .local)
    (h : ∀ g L' h₁, Fr h₀ L g m → Fr g L' h₁ (fun y => binds.reverse.lookup y) → News g L' h₁ news → Below A base (envX cn cs L a ccd cl :: outer) g → K.In g → Top p loose mean mg mb g → KtsDicts ((envX cn cs L a ccd cl :: outer).filterMap (·.frame)) g →
      wpAny (model prog w) (A.deeper (envOf qual scope L' f cdv)) (execs body (envOf qual scope L' f cdv))
        (fun fl s' => LeaveS ((envX cn cs L a ccd cl :: outer).filterMap (·.frame)) A₀ base outer K p loose mean mg mb h₀ h₀ L m g R (match fl with | .ret v => v | _ => .none) s')
        (fun e s' => wpAny (model prog w) (A.deeper (envOf qual scope L' f cdv)) (leaving (envOf qual scope L' f cdv) e) (fun _ s'' => R (.error e) s'') (fun e' s'' => R (.error e') s'') s')
        { s with heap := h₁, toks := s.toks + binds.length })
    (hck : cs.kind = .function) (hco : scope.isCoroutine = false) (hgen : scope.isGenerator = false) (hk : scope.kind = .function)
    (hcell : ∀ x ∈ scope.names, x.2 ≠ .cell) : codeAny (model prog w) A (.call (.ref f) args) R s := by
  have X := X₀.keeps F.keep
  obtain ⟨FG, BG, st, -⟩ := groundX (R := R) B F N hA rfl hck
  refine codeAny_call_def (fd := fnOf name qual params body scope dV kV doc pm an cdv ct) (body := body) (binds := binds) hroom (X _ _ ho) rfl (T.nolimit.keeps F.keep) (codeRec_of X hcd) rfl hbind hcell hloc (fun h₁ hns hk₁ => ?_) hco hgen hk
  obtain ⟨oL, es, ep, hLg, hLd, hLk, hLf⟩ := FG.ns
  have hfl : (envX cn cs L a ccd cl :: outer).filterMap (·.frame) = L :: outer.filterMap (·.frame) := rfl
  refine wpAny_mono (h _ s.heap.objs.size h₁ FG ⟨hns, fun b o e => hk₁ b o (of_hideAll _ e), Nat.le_of_eq (hideAll_size _ _)⟩
    (fun p hp => ⟨hk₁ _ _ (N p hp).1, Nat.ne_of_lt (Heap.lt_size (N p hp).1), hideAll_none _ (List.mem_map_of_mem hp)⟩) BG (X₀.keeps st) (T.keeps st) (fun b hb => by
      rw [hfl] at hb
      rcases List.mem_cons.mp hb with rfl | hb
      · exact ⟨oL, es, ep, hLg, hLd⟩
      · obtain ⟨o, es', n', ho', hd'⟩ := D b hb
        exact ⟨o, es', n', st b o ho', hd'⟩)) (fun fl s' hl => ?_) fun _ _ y => y
  have nL₀ : h₀.get? L = none := kts_self F
  rcases hl with ⟨L', m', news', F', N', k⟩ | ⟨g', L', m', news', T', F', N', k⟩
  · refine k ⟨⟨oL, es, ep, F'.keep _ _ hLg, hLd, hLk, hLf⟩, fun b o e => F'.keep b o (st b o e), F.above⟩ fun p hp => ⟨(N' p hp).1, fun q => ?_, ?_⟩
    · have := (N' p hp).2.2; rw [q, hLg] at this; cases this
    · cases q : h₀.get? p.1 with
      | none => rfl
      | some o => have := (N' p hp).2.2; rw [st _ _ q] at this; cases this
  rw [hfl] at T'
  obtain ⟨sl, hs⟩ := T'.up hLg
  obtain ⟨T₁, S₁⟩ := kts_turn_at (h := s'.heap) (fs := outer.filterMap (·.frame)) (g := h₀)
    (fun b hb => by
      obtain ⟨_, o, ho', _⟩ := B.frames.mem hb
      exact ⟨o, ho'⟩)
    (fun b o e nmem => F'.keep b o (T'.other b o (st b o e) (fun q => by
      rcases List.mem_cons.mp q with z | z
      · rw [z, nL₀] at e
        cases e
      · exact nmem z)))
    (fun b o e hm => by
      obtain ⟨sl', hs'⟩ := T'.up (st b o e)
      exact ⟨sl', F'.keep _ _ hs'⟩)
  have B₃ : Below A₀ base outer (ktsHeap s'.heap (outer.filterMap (·.frame)) h₀) := ⟨B.stack, fun b o e => T₁.other b o (B.stays b o e) (fun hm => by
    rw [(B.frames.mem hm).1] at e
    cases e), B.frames.of_keeps fun b o e _ => by
    obtain ⟨sl', hs'⟩ := T₁.up e
    exact ⟨_, hs', rfl⟩⟩
  refine k _ T₁ ⟨⟨_, es, ep, F'.keep _ _ hs, hLd, hLk, hLf⟩, S₁, by rw [T₁.size]; exact F.above⟩ (fun p hp => ⟨(N' p hp).1, fun q => ?_, ?_⟩) B₃ (XB.keeps B₃.stays) (TB.keeps B₃.stays) (D.turn T₁)
  · have := (N' p hp).2.2; rw [q, hs] at this; cases this
  · refine T₁.none_ _ ?_
    cases q : h₀.get? p.1 with
    | none => rfl
    | some o =>
      obtain ⟨sl', hs'⟩ := T'.up (st _ _ q)
      have := (N' p hp).2.2
      rw [hs'] at this
      cases this
end
end Mine
end
section
open PySem PySem.W PyProof.Rows PySem.Calls PySem.Spec
set_option Elab.async false
set_option maxRecDepth 100000
namespace Mine
abbrev sp1 : Str := ⟨#[32]⟩
theorem app_inj {c : Nat} : ∀ {x y a b : List Nat}, c ∉ x → c ∉ y → x ++ c :: a = y ++ c :: b → x = y ∧ a = b
  | [], [], _, _, _, _, h => ⟨rfl, (List.cons.inj h).2⟩
  | [], y :: ys, _, _, _, hy, h => absurd (List.mem_cons.mpr (.inl (List.cons.inj h).1)) hy
  | x :: xs, [], _, _, hx, _, h => absurd (List.mem_cons.mpr (.inl (List.cons.inj h).1.symm)) hx
  | x :: xs, y :: ys, _, _, hx, hy, h => by
    obtain ⟨e1, e2⟩ := List.cons.inj h
    obtain ⟨e3, e4⟩ := app_inj (fun m => hx (.tail _ m)) (fun m => hy (.tail _ m)) e2
    exact ⟨by rw [e1, e3], e4⟩
def FreeL (l : List Str) : Prop := ∀ p ∈ l, 32 ∉ p.cps.toList
theorem join_two (x y : Str) (r : List Str) : (Str.join sp1 (x :: y :: r)).cps.toList = x.cps.toList ++ 32 :: (Str.join sp1 (y :: r)).cps.toList := by
  rw [Str.join]
  · rw [Str.cps_append, Str.cps_append]; simp
  · simp
theorem join_inj : ∀ {l l' : List Str}, l ≠ [] → l' ≠ [] → FreeL l → FreeL l' → Str.join sp1 l = Str.join sp1 l' → l = l'
  | [], _, h, _, _, _, _ => absurd rfl h
  | _, [], _, h, _, _, _ => absurd rfl h
  | [x], [y], _, _, _, _, h => by rw [show x = y from h]
  | [x], y :: z :: r, _, _, hx, _, h => by
    have e : (Str.join sp1 [x]).cps.toList = _ := congrArg (fun t : Str => t.cps.toList) h
    rw [join_two] at e
    exact absurd (by rw [show x.cps.toList = _ from e]; simp) (hx x (.head _))
  | x :: z :: r, [y], _, _, _, hy, h => by
    have e := congrArg (fun t : Str => t.cps.toList) h
    rw [join_two] at e
    exact absurd (by rw [show y.cps.toList = _ from e.symm]; simp) (hy y (.head _))
  | x :: z :: r, y :: z' :: r', _, _, hx, hy, h => by
    have e := congrArg (fun t : Str => t.cps.toList) h
    rw [join_two, join_two] at e
    obtain ⟨e1, e2⟩ := app_inj (hx x (.head _)) (hy y (.head _)) e
    have e3 : x = y := Str.ext' (Array.toList_inj.mp e1)
    have e4 := join_inj (l := z :: r) (l' := z' :: r') (by simp) (by simp) (fun p hp => hx p (.tail _ hp)) (fun p hp => hy p (.tail _ hp)) (Str.ext' (Array.toList_inj.mp e2))
    rw [e3, e4]
theorem split_is {x : Str} {l : List Str} (hl : l ≠ []) (hf : FreeL l) (h : Str.join sp1 l = x) : Txt.split x sp1 = l := by
  refine join_inj ?_ hl (StrLaws.split_free x 32) hf ((StrLaws.join_split x sp1).trans h.symm)
  intro e
  have := split_pos x sp1
  rw [e] at this
  exact absurd this (by decide)
theorem num_free {n : Int} (h : 0 ≤ n) : 32 ∉ (Str.ofString (toString n)).cps.toList := by
  obtain ⟨m, rfl⟩ := Int.eq_ofNat_of_zero_le h
  rw [KIN.signs_num]
  intro hc
  obtain ⟨ch, hch, e⟩ := List.mem_map.mp hc
  have r := digit_range (Nat.isDigit_of_mem_toDigits (by decide) (by decide) hch)
  omega
def partsB (n k : Int) : List Str := [Str.ofString "expected", Str.ofString (toString n), Str.ofString "bytes", Str.ofString "in", Str.ofString "a", Str.ofString "bytes1,", Str.ofString "but", Str.ofString "only", Str.ofString (toString k), Str.ofString "remain"]
theorem split_msgB {n k : Int} (hn : 0 ≤ n) (hk : 0 ≤ k) : Txt.split (msgB n k) sp1 = partsB n k := by
  refine split_is (by simp [partsB]) ?_ ?_
  · intro p hp
    simp only [partsB, List.mem_cons, List.not_mem_nil, or_false] at hp
    rcases hp with rfl | rfl | rfl | rfl | rfl | rfl | rfl | rfl | rfl | rfl
    · decide +kernel
    · exact num_free hn
    · decide +kernel
    · decide +kernel
    · decide +kernel
    · decide +kernel
    · decide +kernel
    · decide +kernel
    · exact num_free hk
    · decide +kernel
  · apply Str.ext'
    apply Array.toList_inj.mp
    simp only [partsB, join_two]
    show _ ++ 32 :: (_ ++ 32 :: (_ ++ 32 :: (_ ++ 32 :: (_ ++ 32 :: (_ ++ 32 :: (_ ++ 32 :: (_ ++ 32 :: (_ ++ 32 :: (Str.ofString "remain").cps.toList)))))))) = _
    unfold msgB
    simp only [Str.cps_append, Array.toList_append]
    have e1 : (Str.ofString "expected ").cps.toList = (Str.ofString "expected").cps.toList ++ [32] := by decide +kernel
    have e2 : (Str.ofString " bytes in a bytes1, but only ").cps.toList = 32 :: ((Str.ofString "bytes").cps.toList ++ 32 :: ((Str.ofString "in").cps.toList ++ 32 :: ((Str.ofString "a").cps.toList ++ 32 :: ((Str.ofString "bytes1,").cps.toList ++ 32 :: ((Str.ofString "but").cps.toList ++ 32 :: ((Str.ofString "only").cps.toList ++ [32])))))) := by decide +kernel
    have e3 : (Str.ofString " remain").cps.toList = 32 :: (Str.ofString "remain").cps.toList := by decide +kernel
    rw [e1, e2, e3]
    simp only [List.append_assoc, List.cons_append, List.nil_append]
theorem vals_of {l : List (Str × Tok)} {x : Str} {r : List Str} (h : l.map (·.1) = x :: r) : ∃ t l', strValues l = .str x t :: strValues l' ∧ l'.map (·.1) = r := by
  cases l with
  | nil => simp at h
  | cons p l' =>
    rw [List.map_cons] at h
    obtain ⟨e1, e2⟩ := List.cons.inj h
    exact ⟨p.2, l', by rw [← e1]; rfl, e2⟩
theorem split_words {prog : Program} {w : World} {A : Around} {E : Value → Shared → Prop} {s : Shared} {t u : Tok} {h₀ : Heap} {L : Addr} {m : Str → Option Value} {news : List (Addr × Obj)} {Q : Value → Shared → Prop} {n k : Int}
    (hF : Fr h₀ L s.heap m) (hN : News h₀ L s.heap news) (hn : 0 ≤ n) (hn' : n < 1000) (hk : 0 ≤ k) (hk' : k < 1000)
    (h : ∀ D h' j t0 t1 t2 t3 t4 t5 t6 t7 t8 t9, (∀ q ∈ news, q.1 < D) → Fr h₀ L h' m → News h₀ L h' ((D, listOf #[.str (Str.ofString "expected") t0, .str (Str.ofString (toString n)) t1, .str (Str.ofString "bytes") t2, .str (Str.ofString "in") t3, .str (Str.ofString "a") t4, .str (Str.ofString "bytes1,") t5, .str (Str.ofString "but") t6, .str (Str.ofString "only") t7, .str (Str.ofString (toString k)) t8, .str (Str.ofString "remain") t9] 0) :: news) → Q (.ref D) { s with heap := h', toks := j }) :
    wpAny (model prog w) A (call (.builtin "str.split") [.str (msgB n k) t, .str (Str.ofString " ") u]) Q E s := by
  have es : Str.ofString " " = sp1 := by decide +kernel
  rw [es]
  have l1 := KT.len_num hn (show n < 10 ^ 10 by omega)
  have l2 := KT.len_num hk (show k < 10 ^ 10 by omega)
  refine splitN1 hF hN (by decide) (fun l h' j e F N => ?_) ?_
  · rw [split_msgB hn hk] at e
    unfold partsB at e
    obtain ⟨t0, _, v0, e⟩ := vals_of e
    obtain ⟨t1, _, v1, e⟩ := vals_of e
    obtain ⟨t2, _, v2, e⟩ := vals_of e
    obtain ⟨t3, _, v3, e⟩ := vals_of e
    obtain ⟨t4, _, v4, e⟩ := vals_of e
    obtain ⟨t5, _, v5, e⟩ := vals_of e
    obtain ⟨t6, _, v6, e⟩ := vals_of e
    obtain ⟨t7, _, v7, e⟩ := vals_of e
    obtain ⟨t8, _, v8, e⟩ := vals_of e
    obtain ⟨t9, l9, v9, e⟩ := vals_of e
    have v10 : strValues l9 = [] := by
      cases l9 with
      | nil => rfl
      | cons p r => simp at e
    rw [v0, v1, v2, v3, v4, v5, v6, v7, v8, v9, v10] at N
    exact h _ h' j t0 t1 t2 t3 t4 t5 t6 t7 t8 t9 (fun q hq => Heap.lt_size (hN q hq).1) F N
  · unfold msgB
    simp only [Str.length_append]
    have a1 : (Str.ofString "expected ").length = 9 := by decide +kernel
    have a2 : (Str.ofString " bytes in a bytes1, but only ").length = 29 := by decide +kernel
    have a3 : (Str.ofString " remain").length = 7 := by decide +kernel
    rw [a1, a2, a3, sizeLine_eq]
    omega
end Mine
end
section
open PySem PySem.W PyProof.Rows PySem.Calls PySem.Spec
set_option Elab.async false
namespace Mine
section
variable {g₀ : Heap}
/-- the same, over a source that stands in the ground -/
theorem loopH {prog : Program} {w : World} {A : Around} {s : Shared} {env : Env} {R : Result → Shared → Prop} {tg : Expr} {body : List Stmt} {I : Addr} {n : Nat} {P : Nat → Value → Prop} {St : Nat → Heap → Prop} {m₀ : Str → Option Value} {news fpo : List (Addr × Obj)}
    (J : Nat → (Str → Option Value) → List (Addr × Obj) → Prop) (Q : Flow → Shared → Prop) (E : Value → Shared → Prop)
    (W : Walks prog w A I (I :: fpo.map (·.1)) [I] n P St) (hIo : ∀ i h, St i h → ∃ o, h.get? I = some o ∧ NoTab o)
    (hJf : ∀ q ∈ fpo, g₀.get? q.1 = some q.2)
    (hLI : env.locals ≠ I) (hgI : g₀.get? I = none) (hnI : ∀ q ∈ news, @Ne Nat q.1 I)
    (hst : St 0 s.heap) (F₀ : Fr g₀ env.locals s.heap m₀) (N₀ : News g₀ env.locals s.heap news) (hj : J 0 m₀ news)
    (hE : ∀ e s', E e s' → notedBy (model prog w) A env (fun e s' => R (.error e) s') e s')
    (hQ : ∀ f s', Q f s' → R (.ok f) s')
    (turn : ∀ i v m₁ news₁ h tk oI, NoTab oI → i < n → P i v → (∀ q ∈ news₁, @Ne Nat q.1 I) → J i m₁ news₁ →
      Fr g₀ env.locals h m₁ → News g₀ env.locals h ((I, oI) :: news₁) →
      wpAny (model prog w) A (assign tg env v) (fun _ s₂ => wpAny (model prog w) A (execs body env) (PostY g₀ env.locals (J (i + 1)) I oI Q s) E s₂) E { s with heap := h, toks := tk })
    (done : ∀ m₁ news₁ h tk, J n m₁ news₁ → Fr g₀ env.locals h m₁ → News g₀ env.locals h news₁ → Q .next { s with heap := h, toks := tk })
    (ht : ∀ v, letOwnedTupleGo tg (.ref I) v = pure () := by intro _; rfl) :
    codeAny (model prog w) A (.forLoop tg (.ref I) body [] env) R s := by
  refine codeAny_forLoop
    (fun k s' => ∃ h' tk m' news' i, s' = { s with heap := h', toks := tk } ∧ St i h' ∧ Fr g₀ env.locals h' m' ∧ News g₀ env.locals h' news' ∧ (∀ q ∈ news', @Ne Nat q.1 I) ∧ J i m' news' ∧ i ≤ n ∧ k = n + 1 - i) ?_ (n + 1)
    ⟨s.heap, s.toks, m₀, news, 0, rfl, hst, F₀, N₀, hnI, hj, Nat.zero_le _, rfl⟩ ht
  rintro k s' ⟨h', tk, m', news', i, rfl, hst', F', N', nI, hJ, hi, rfl⟩
  have nextF : ∀ h₁ : Heap, (∀ b o, b ∉ [I] → h'.get? b = some o → h₁.get? b = some o) → Fr g₀ env.locals h₁ m' := fun h₁ hk₁ =>
    ⟨F'.ns.at' fun o e => hk₁ _ o (by simpa using hLI) e, fun b o e => hk₁ b o (fun hb => by rw [List.mem_singleton.mp hb, hgI] at e; cases e) (F'.keep b o e), F'.above⟩
  have nextN : ∀ h₁ : Heap, (∀ b o, b ∉ [I] → h'.get? b = some o → h₁.get? b = some o) → News g₀ env.locals h₁ news' := fun h₁ hk₁ =>
    fun q hq => ⟨hk₁ _ _ (by simpa using nI q hq) (N' q hq).1, (N' q hq).2⟩
  by_cases hlt : i < n
  · refine W.item i _ _ _ hlt hst' fun v h₁ tk₁ hP hst₁ hk₁ => ?_
    have F₁ := nextF h₁ hk₁
    have N₁ := nextN h₁ hk₁
    obtain ⟨oI, hoI, hoT⟩ := hIo _ _ hst₁
    have N₃ : News g₀ env.locals h₁ ((I, oI) :: news') := fun q hq => by
      rcases List.mem_cons.mp hq with rfl | hq
      · exact ⟨hoI, hLI.symm, hgI⟩
      · exact N₁ q hq
    refine wpAny_mono (turn i v m' news' h₁ _ oI hoT hlt hP nI hJ F₁ N₃) (fun _ s₂ h₂ => wpAny_mono h₂ (fun f s₃ h₃ => ?_) fun e s' h' => hE e s' h') fun e s' h' => hE e s' h'
    have fin : EndY g₀ env.locals (J (i + 1)) I oI s s₃ → ∃ m, m < n + 1 - i ∧ ∃ h' tk m' news' i', s₃ = { s with heap := h', toks := tk } ∧ St i' h' ∧ Fr g₀ env.locals h' m' ∧ News g₀ env.locals h' news' ∧ (∀ q ∈ news', @Ne Nat q.1 I) ∧ J i' m' news' ∧ i' ≤ n ∧ m = n + 1 - i' := by
      rintro ⟨h₃', tk₃, m₃, news₃, nx, rfl, F₃, N₄, hsub, hI, hne, hJ₃⟩
      refine ⟨n + 1 - (i + 1), by omega, h₃', tk₃, m₃, nx, i + 1, rfl, ?_, F₃, fun q hq => N₄ q (hsub q hq), hne, hJ₃, hlt, rfl⟩
      exact W.frame _ _ _ hst₁ fun b hb o e => by
        rcases List.mem_cons.mp hb with rfl | hb
        · rw [hoI] at e; cases e
          exact (N₄ _ hI).1
        · obtain ⟨q, hq, rfl⟩ := List.mem_map.mp hb
          have h1 := F₁.keep _ _ (hJf q hq)
          rw [h1] at e; cases e
          exact F₃.keep _ _ (hJf q hq)
    cases f with
    | ret v => exact hQ _ _ h₃
    | brk => exact hQ _ _ h₃
    | next => exact fin h₃
    | cont => exact fin h₃
  · have hin : i = n := by omega
    subst hin
    refine W.done _ _ _ hst' fun h₁ tk₁ hk₁ => wpAny_execs_nil ?_
    exact hQ _ _ (done m' news' h₁ tk₁ hJ (nextF h₁ hk₁) (nextN h₁ hk₁))

theorem iterG_base {prog : Program} {w : World} {A : Around} {s : Shared} {env : Env} {tg : Expr} {body : List Stmt} {r : Addr} {vs : List Value} {m₀ : Str → Option Value} {news : List (Addr × Obj)} {Q : Flow → Shared → Prop} {E : Value → Shared → Prop}
    (J : Nat → (Str → Option Value) → List (Addr × Obj) → Prop)
    (hh : A.handled = none) (hr : g₀.IsList r vs.toArray)
    (F₀ : Fr g₀ env.locals s.heap m₀) (N₀ : News g₀ env.locals s.heap news) (hj : J 0 m₀ news)
    (hE : PassesOwn (model prog w) A env E)
    (turn : ∀ I i v m₁ news₁ h tk oI, NoTab oI → i < vs.length → vs[i]? = some v → (∀ q ∈ news₁, @Ne Nat q.1 I) → J i m₁ news₁ →
      Fr g₀ env.locals h m₁ → News g₀ env.locals h ((I, oI) :: news₁) →
      wpAny (model prog w) A (assign tg env v) (fun _ s₂ => wpAny (model prog w) A (execs body env) (PostY g₀ env.locals (J (i + 1)) I oI Q s) E s₂) E { s with heap := h, toks := tk })
    (done : ∀ m₁ news₁ h tk, J vs.length m₁ news₁ → Fr g₀ env.locals h m₁ → News g₀ env.locals h news₁ → Q .next { s with heap := h, toks := tk })
    (ht : ∀ I v, letOwnedTupleGo tg (.ref I) v = pure () := by intro _ _; rfl) :
    wpAny (model prog w) A (pyIter (.ref r)) (fun it s₂ => codeAny (model prog w) A (.forLoop tg it body [] env) (fun r s' => match r with | .ok f => Q f s' | .error e => cameBackBy (model prog w) A env E e s') s₂) E s := by
  obtain ⟨orr, hor, hoc, jn, hod⟩ := hr
  have hl : s.heap.IsList r vs.toArray := ⟨_, F₀.keep _ _ hor, hoc, jn, hod⟩
  refine wpAny_pyIter_list hl ?_
  have hne : r ≠ s.heap.objs.size := Nat.ne_of_lt (Heap.lt_size (F₀.keep _ _ hor))
  have W := Walks.list (prog := prog) (w := w) hh s.heap.objs.size r hne vs.toArray
  have gN : g₀.get? s.heap.objs.size = none := by
    cases q : g₀.get? s.heap.objs.size with
    | none => rfl
    | some o => exact absurd (Heap.lt_size (F₀.keep _ _ q)) (Nat.lt_irrefl _)
  refine loopH (s := { s with heap := s.heap.push _ }) (fpo := [(r, orr)]) J Q E W (fun i h hi => ?_) (fun q hq => by rw [List.mem_singleton.mp hq]; exact hor) (Nat.ne_of_lt F₀.ns.lt) gN (fun q hq => Nat.ne_of_lt (Heap.lt_size (N₀ q hq).1)) ?_ (F₀.push _) (fun q hq => ⟨Heap.get?_push_of_some _ (N₀ q hq).1, (N₀ q hq).2⟩) hj (fun e s' h => hE e s' h) (fun f s' h => h) ?_ ?_ (ht _)
  · obtain ⟨o, ho, _, hd⟩ := hi.1
    exact ⟨o, ho, noTab_int hd rfl⟩
  · exact ⟨⟨_, Heap.get?_push_size _ rfl, rfl, rfl⟩, hl.at fun o e => Heap.get?_push_of_some _ e⟩
  · rintro i v m₁ news₁ h tk oI hoT hi hv ho hJ F N
    exact turn _ i v m₁ news₁ h tk oI hoT (by simpa using hi) (by simpa using hv) ho hJ F N
  · intro m₁ news₁ h tk hJ F N
    exact done m₁ news₁ h tk (by simpa using hJ) F N
end
end Mine
end
section
open PySem PySem.W PyProof.Rows PySem.Calls PySem.Spec
set_option Elab.async false
namespace Mine
theorem pick_upto (vs : List Value) {y : Int} (h : 0 ≤ y) : slicePick vs.toArray none (some y) none = (vs.take y.toNat).toArray := by
  have e : sliceBounds none (some y) none vs.toArray.size = (((0 : Nat) : Int), ((min y.toNat vs.toArray.size : Nat) : Int), 1) := by
    simp only [sliceBounds, Option.getD_none, show (1 : Int) > 0 by decide, if_true, if_neg (show ¬ (y < 0) by omega)]
    congr 1
    congr 1
    omega
  rw [kmk_pick_nat _ e]
  show ((vs.drop 0).take (min y.toNat vs.toArray.size - 0)).toArray = _
  rw [List.drop_zero, Nat.sub_zero, List.size_toArray, kmk_take_min]
theorem slice_upto_any {prog : Program} {w : World} {A : Around} {E : Value → Shared → Prop} {s : Shared} {h₀ : Heap} {L l : Addr} {m : Str → Option Value} {news : List (Addr × Obj)} {value slice : PySem.Expr} {vs : List Value} {j : Nat} {y : Int} {ty : Tok} {Q : Value → Shared → Prop}
    (F : Fr h₀ L s.heap m) (N : News h₀ L s.heap news) (hm : (l, listOf vs.toArray j) ∈ news) (h0 : 0 ≤ y) (hz : vs.length ≤ 1000000)
    (h : ∀ D h', Fr h₀ L h' m → News h₀ L h' ((D, listOf (vs.take y.toNat).toArray 0) :: news) → (∀ p ∈ news, p.1 < D) → Q (.ref D) { s with heap := h' })
    (hs : subscripted slice false (.ref l) (.ref s.heap.objs.size) = operate [.ref s.heap.objs.size, .ref l] (getItem (.ref l) (.ref s.heap.objs.size))) (ht : ∀ r, letTemporaryGo value (.ref l) r = pure ()) :
    wpAny (model prog w) A (subscriptTail value slice (.ref l) (.ref s.heap.objs.size)) Q E { s with heap := s.heap.push { cls := .type "slice", data := .fields #[.none, .int y ty, .none] } } := by
  refine kmk_slice F N (isList_at N hm) .none (.int y ty) (fun D h' F' N' l1 => h D h' F' ?_ l1) hs ht (by rw [List.size_toArray, sizeLine_eq]; omega)
  rw [pick_upto vs h0] at N'
  exact N'
theorem bytes_take {vs : List Value} {bs : List (Array UInt8)} (h : BytesAre vs bs) : ∀ k, BytesAre (vs.take k) (bs.take k) := by
  induction h with
  | nil => intro k; simp; exact .nil
  | cons b t _ ih =>
    intro k
    cases k with
    | zero => exact .nil
    | succ k => exact .cons b t (ih k)
end Mine
end
section
open PySem PySem.W PyProof.Rows PySem.Calls PySem.Spec
set_option Elab.async false
set_option maxRecDepth 100000
set_option maxHeartbeats 8000000
namespace Mine
local macro_rules | `(tactic| k_room) => `(tactic| ktr_room)
local macro_rules | `(tactic| k_units) => `(tactic| ktr_units)
local macro_rules | `(tactic| k_mem) => `(tactic| first | exact List.Mem.head _ | (refine List.mem_cons_of_mem _ ?_; k_mem))
theorem stream_ct (w : World) {p : Program} {loose : List Str} {mean : ExcName → Option Value} {mg mb : Str → Option Value}
  {dp un : Nat} {gd : Option (List Code)} {cn : Str} {cs : Scope} {a : Addr} {ccd : Value} {cl : List (Str × Addr)} {outer : List Env} {A₀ : Around} {base h₀ : Heap} {L : Addr} {m : Str → Option Value} {rest T : List (Addr × Obj)} {s : Shared}
  {b : Array UInt8} {tb : Tok} {Q E : Value → Shared → Prop}
  (B : Below A₀ base outer h₀) (F : Fr h₀ L s.heap m) (X : (hd05.heap_39 w.params).In h₀) (N : News h₀ L s.heap (T ++ rest)) (TT : Top p loose mean mg mb h₀)
  (H : CodeHd h₀ 55 51) (hT : Tab 51 (rawInt 22) (rawInt 4) (Str.ofString "_law_stream.<locals>._law_read") T) (hoff : OwnOff rest [51])
  (hk : cs.kind = .function) (hd : dp + 20 < recursionLimit)
  (ok : ∀ x dx r k1 k2 tp I T' h' tk, Strm Challenge.rw_dm0232_05.row.prog w (hd05.heap_39 w.params) p loose mean mg mb 45 x dx r k1 k2 b I → Tab 51 (rawInt 22) (rawInt 4) (Str.ofString "_law_stream.<locals>._law_read") T' →
    OwnOff I [51] → OwnOff T' [dx] → OwnOff rest [dx] →
    Fr h₀ L h' m → News h₀ L h' ((dx, SD w.params k1 k2 r 0 tp) :: (I ++ (T' ++ rest))) → Q (.ref x) { s with heap := h', toks := tk }) :
  wpAny (model Challenge.rw_dm0232_05.row.prog w) (ktrTop dp un gd cn cs L a ccd cl outer) (call (.ref 56) [.bytes b tb]) Q E s := by
  revert X; k_fill; intro X
  have hMk := kstMark
  cases hT
  all_goals
    simp only [List.cons_append, List.nil_append] at N
    refine wpAny_call ?_
    refine' code_defC ?k1 ?k2 ?k3 ?k4 ?k5 ?kA ?kF ?kK ?k6 ?k7 ?k8 ?k9 ?kB ?kD ?_ ?c2 ?c3 ?c4
    case kA => exact rfl
    case kF => exact rfl
    case kK => assumption
    case k1 => k_asm
    case k2 => k_asm
    case k3 => k_asm
    case k4 => k_asm
    case k5 => k_asm
    case k6 => k_is
    case k7 => k_is
    case k8 => ktr_room
    case k9 => exact BindsTo.of_eq rfl
    case kB => exact rfl
    case kD => decide +kernel
    case c2 => exact rfl
    case c3 => exact rfl
    case c4 => exact rfl
    intro g' L' h' tk' cells' FG' F' N' Y' B' X' T' l1
    (try k_lt l1)
    have hO : OwnOff rest [L' + 1, L' + 1 + 1] := off_lt (d := L') (by first | exact l1.2 | exact l1.2.2) (by intro a ha; simp only [List.mem_cons, List.not_mem_nil, or_false] at ha; rcases ha with rfl | rfl <;> exact Nat.le_add_right_of_le (by omega))
    have H' : CodeHd g' 55 51 := H.keeps FG'.keep
    k_cells Y'
    (try simp only [List.cons_append, List.nil_append] at N')
    (try dsimp only)
    (try k_lift B')
    (try k_fold)
    k_steps
    rename News h₀ L _ _ => NN
    rename Fr h₀ L _ m => FF
    first
    | refine ok _ _ _ _ _ _ _ _ _ _ ?strm ?tab ?o1 ?o2 ?lt FF (fin_none NN)
    | refine ok _ _ _ _ _ _ _ _ _ _ ?strm ?tab ?o1 ?o2 ?lt FF (fin_some NN)
    case o1 => exact off_one (by k_all)
    case o2 => exact off_one (by k_all)
    case lt => exact off_one (by k_all)
    case tab => refine Tab.some ?_ (by assumption) (by assumption); k_ne
    case strm =>
      refine strm_mk (by k_mem) ⟨_, _, _, _, by k_mem⟩ (off_one (by k_all)) (by intro e he; simp only [List.mem_cons, List.not_mem_nil, or_false] at he; rcases he with rfl | rfl | rfl | rfl | rfl <;> first | exact kin_func rfl | exact kin_plain rfl | exact kin_fields (by assumption) | exact kin_cell (by assumption)) (fun hoI => ?_)
      intro dp un gd cn cs a ccd outer A₀ base h₀ L m news upd s q n tq tn Q E B F X N T hk hd hu hI U hq hb hn hret
      obtain ⟨rest, hof, hnw, hup⟩ := upd_split U
      have N2 := news_sub (l' := (_, _) :: rest) N (fun e he => (hnw e).mpr (List.mem_cons.mp he))
      have hm := mem_rest hI hoI hnw
      simp only [List.forall_mem_cons] at hm
      obtain ⟨m1, m2, m3, m4, m5, -⟩ := hm
      obtain ⟨ks, hks⟩ : ∃ ks, KBw.bInts b = ks := ⟨_, rfl⟩
      have hkl : ks.length = b.size := by rw [← hks]; exact KBw.ints_length b
      clear hI U N
      refine wpAny_call ?_
      k_dflt (refine' code_nest ?k1 ?k2 ?k3 ?k4 ?k5 ?kA ?kF ?kK ?k6 ?k7 ?k8 ?k9 ?kB ?_ ?c2 ?c3 ?c4 ?c5; (case kA => exact rfl); (case kF => exact rfl); (case kK => assumption); (case k2 => k_asm); (case k1 => k_asm); (case k3 => k_asm); (case k4 => k_asm); (case k5 => k_asm); (case k6 => k_mem); (case k7 => exact codeRec_news (by k_asm) (by k_mem) (by assumption) (by assumption)); (case k8 => k_room); (case k9 => exact BindsTo.of_eq rfl); (case c5 => decide); (case kB => exact locs rfl); (case c2 => exact rfl); (case c3 => exact rfl); (case c4 => exact rfl); k_whole; intro g' L' h' FG' F' N' B' X' T'; (try dsimp only); (try k_lift B'); (try k_fold))
      k_steps
      rename News h₀ L _ _ => NN
      rename Fr h₀ L _ m => FF
      rw [picked_cut hq]
      exact hret _ _ _ _ FF (read_fin NN (read_place hq hkl) hup)
local macro_rules | `(tactic| walk_at "callWith ref") => `(tactic| (k_here; (rename Strm _ _ _ _ _ _ _ _ _ _ _ _ _ _ _ _ => sS); k_dflt (refine' callWith_F ?k1 ?_; (case k1 => exact FnAt.of (by k_asm) (by k_mem)); k_whole)))
local macro_rules | `(tactic| walk_at "call ref") => `(tactic| (k_here; (rename Strm _ _ _ _ _ _ _ _ _ _ _ _ _ _ _ _ => sS); (with_reducible show wpAny _ _ (call (Value.ref _) [Value.int _ _]) _ _ _); k_dflt (first | (refine' strm_read 1 rfl sS ?B ?F ?X ?N ?T ?hk ?hd ?hu ?hI ?U ?hq ?hb ?hn ?_; (case F => k_asm); (case N => k_asm); (case B => k_asm); (case X => k_asm); (case T => k_asm); (case hk => first | rfl | assumption); (case hd => ktr_room); (case hu => ktr_units); (case hI => (repeat (first | assumption | refine Sub.cons ?_))); (case U => k_updF); (case hq => omega); (case hb => omega); (case hn => decide)) | (refine' strm_read _ rfl sS ?B ?F ?X ?N ?T ?hk ?hd ?hu ?hI ?U ?hq ?hb ?hn ?_; (case F => k_asm); (case N => k_asm); (case B => k_asm); (case X => k_asm); (case T => k_asm); (case hk => first | rfl | assumption); (case hd => ktr_room); (case hu => ktr_units); (case hI => (repeat (first | assumption | refine Sub.cons ?_))); (case U => k_updF); (case hq => omega); (case hb => omega); (case hn => omega))); intro h' tk' t1 t2 F' N'; (try dsimp only)))
local macro_rules | `(tactic| walk_at "exec Raise some none") => `(tactic| (k_here; (with_reducible show wpAny _ _ (exec (Stmt.Raise (some (Expr.Call (Expr.Name ("ValueError" : Str) _) (_ :: _) [] _)) none _) _) _ _ _); (with_reducible rename Fr _ _ _ _ => kF); k_dflt (refine' Raise_madeB PySem.F.excCall_ValueError PySem.F.excRaise_ValueError ?hh (name_B kF ?k1 ?k2 ?k3 PyProof.Rows.Boot.«ValueError» ?k5 ⟨rfl, ?_⟩) ?a ?b; (case hh => rfl); (case a => rfl); (case b => rfl); (case k1 => k_asm); (case k2 => k_asm); (case k3 => k_is); (case k5 => decide))))
local macro_rules | `(tactic| walk_at "ite") => `(tactic| (k_here; first | (refine ite_pos (by first | omega | (simp only [decide_eq_true_eq, beq_iff_eq]; omega)) ?_) | (refine ite_neg (by first | omega | (simp only [decide_eq_true_eq, beq_iff_eq]; omega)) ?_)))
local macro_rules | `(tactic| walk_at "binaryOp Mod str ref") => `(tactic| (k_here; k_dflt (first | (refine' modB ?N ?b ?a1 ?a2 ?a3 ?a4 ?_; (case N => k_asm); (case b => k_mem); (case a1 => omega); (case a2 => omega); (case a3 => omega); (case a4 => omega)) | (refine' modS ?N ?b ?a1 ?a2 ?a3 ?a4 ?_; (case N => k_asm); (case b => k_mem); (case a1 => omega); (case a2 => omega); (case a3 => omega); (case a4 => omega))); intro _ _))
theorem ru1_ct (w : World) {p : Program} {loose : List Str} {mean : ExcName → Option Value} {mg mb : Str → Option Value}
  {dp un : Nat} {gd : Option (List Code)} {cn : Str} {cs : Scope} {a : Addr} {ccd : Value} {cl : List (Str × Addr)} {outer : List Env} {A₀ : Around} {base h₀ : Heap} {L : Addr} {m : Str → Option Value}
  {news I : List (Addr × Obj)} {upd : Obj → List (Addr × Obj)} {s : Shared} {f dx r : Addr} {k1 k2 tq : Tok} {b : Array UInt8} {q : Nat} {Q E : Value → Shared → Prop}
  (B : Below A₀ base outer h₀) (F : Fr h₀ L s.heap m) (X : (hd05.heap_39 w.params).In h₀) (N : News h₀ L s.heap news) (T : Top p loose mean mg mb h₀)
  (S : Strm Challenge.rw_dm0232_05.row.prog w (hd05.heap_39 w.params) p loose mean mg mb 45 f dx r k1 k2 b I) (hI : Sub I news) (U : UpdF dx (SD w.params k1 k2 r (q : Int) tq) news upd)
  (hk : cs.kind = .function) (hd : dp + 10 < recursionLimit) (hu : un + 60 < cLine) (hq : q ≤ b.size) (hb : b.size ≤ 1048576)
  (ok : ∀ h' tk t1 t2, q < b.size → Fr h₀ L h' m → News h₀ L h' (upd (SD w.params k1 k2 r ((q + 1 : Nat) : Int) t1)) → Q (.int (oct b q : Int) t2) { s with heap := h', toks := tk })
  (err : ∀ g e t u h' tk t1, q = b.size → Fr h₀ L g m → RaisedS base g (envX cn cs L a ccd cl :: outer) e (.type "ValueError") t [.str (msg0) u] (upd (SD w.params k1 k2 r (b.size : Int) t1)) h' → g.UpToSlots h' → E (.ref e) { s with heap := h', toks := tk }) :
  wpAny (model Challenge.rw_dm0232_05.row.prog w) (ktrTop dp un gd cn cs L a ccd cl outer) (call (.ref 21) [.ref f]) Q E s := by
  revert X; k_fill; intro X
  have hMk := kstMark
  obtain ⟨rest, hof, hnw, hup⟩ := upd_split U
  have N2 := news_sub (l' := (_, _) :: rest) N (fun e he => (hnw e).mpr (List.mem_cons.mp he))
  have hm : Sub I rest := mem_rest hI S.off hnw
  have mi := hm _ S.inst
  obtain ⟨oc, od, fd, sl, mf⟩ := S.fn
  have mf := hm _ mf
  clear hI U N
  have D0 : KtsDicts [] h₀ := ktsDicts_nil
  have hc : q < b.size ∨ q = b.size := by omega
  rcases hc with hc | hc
  · have hks := ints_cut1 hc
    refine wpAny_call ?_
    k_dflt ktr_enter
    k_steps
    · rename News h₀ L _ _ => NN
      rename Fr h₀ L _ m => FF
      exact ok _ _ _ _ hc FF (read_fin NN (by rw [cut1_size hc]) hup)
    · rename ¬ _ < _ => hx
      exact absurd (Nat.zero_lt_succ _) hx
  · have hks : KBw.bInts (cutB b q 1) = [] := by rw [hc]; exact ints_cut0
    have hsz : (cutB b q 1).size = 0 := by rw [hc]; exact cut0_size
    refine wpAny_call ?_
    k_dflt ktr_enter
    k_steps
    rename RaisedS _ _ _ _ _ _ _ _ _ => RR
    rename Fr h₀ L _ m => FF
    rename Heap.UpToSlots _ _ => UU
    exact err _ _ _ _ _ _ _ hc FF (raise_fin RR (by rw [hsz, hc]; rfl) hup) UU
local macro_rules | `(tactic| walk_at "call ref") => `(tactic| (k_here; (rename Strm _ _ _ _ _ _ _ _ _ _ _ _ _ _ _ _ => sS); (with_reducible show wpAny _ _ (call (Value.ref 21) [Value.ref _]) _ _ _); k_dflt (refine' ru1_ct _ ?B ?F ?X ?N ?T sS ?hI ?U ?hk ?hd ?hu ?hq ?hb (fun h' tk' t1 t2 hlt' F' N' => ?_) (fun g' e' t' u' h' tk' t1 heq' F' R' U' => ?_); (case F => k_asm); (case N => k_asm); (case B => k_asm); (case X => k_asm); (case T => k_asm); (case hk => first | rfl | assumption); (case hd => ktr_room); (case hu => ktr_units); (case hI => (repeat (first | assumption | refine Sub.cons ?_))); (case U => k_updF); (case hq => omega); (case hb => omega)); (all_goals (first | (exfalso; omega) | (try dsimp only)))))
theorem rb1_ct (w : World) {p : Program} {loose : List Str} {mean : ExcName → Option Value} {mg mb : Str → Option Value}
  {dp un : Nat} {gd : Option (List Code)} {cn : Str} {cs : Scope} {a : Addr} {ccd : Value} {cl : List (Str × Addr)} {outer : List Env} {A₀ : Around} {base h₀ : Heap} {L : Addr} {m : Str → Option Value}
  {news I : List (Addr × Obj)} {upd : Obj → List (Addr × Obj)} {s : Shared} {f dx r : Addr} {k1 k2 tq : Tok} {b : Array UInt8} {q : Nat} {Q E : Value → Shared → Prop}
  (B : Below A₀ base outer h₀) (F : Fr h₀ L s.heap m) (X : (hd05.heap_39 w.params).In h₀) (N : News h₀ L s.heap news) (T : Top p loose mean mg mb h₀)
  (S : Strm Challenge.rw_dm0232_05.row.prog w (hd05.heap_39 w.params) p loose mean mg mb 45 f dx r k1 k2 b I) (hI : Sub I news) (U : UpdF dx (SD w.params k1 k2 r (q : Int) tq) news upd)
  (hk : cs.kind = .function) (hd : dp + 14 < recursionLimit) (hu : un + 80 < cLine) (hq : q ≤ b.size) (hb : b.size ≤ 1048576)
  (ok : ∀ h' tk t1 t2, q < b.size → q + 1 + oct b q ≤ b.size → Fr h₀ L h' m → News h₀ L h' (upd (SD w.params k1 k2 r ((q + 1 + oct b q : Nat) : Int) t1)) → Q (.bytes (cutB b (q + 1) (oct b q)) t2) { s with heap := h', toks := tk })
  (err0 : ∀ g e t u h' tk t1, q = b.size → Fr h₀ L g m → RaisedS base g (envX cn cs L a ccd cl :: outer) e (.type "ValueError") t [.str (msg0) u] (upd (SD w.params k1 k2 r (b.size : Int) t1)) h' → g.UpToSlots h' → E (.ref e) { s with heap := h', toks := tk })
  (err1 : ∀ g e t u h' tk t1, q < b.size → b.size < q + 1 + oct b q → Fr h₀ L g m → RaisedS base g (envX cn cs L a ccd cl :: outer) e (.type "ValueError") t [.str (msgB (oct b q : Int) ((b.size - (q + 1) : Nat) : Int)) u] (upd (SD w.params k1 k2 r (b.size : Int) t1)) h' → g.UpToSlots h' → E (.ref e) { s with heap := h', toks := tk }) :
  wpAny (model Challenge.rw_dm0232_05.row.prog w) (ktrTop dp un gd cn cs L a ccd cl outer) (call (.ref 28) [.ref f]) Q E s := by
  revert X; k_fill; intro X
  have hMk := kstMark
  obtain ⟨rest, hof, hnw, hup⟩ := upd_split U
  have N2 := news_sub (l' := (_, _) :: rest) N (fun e he => (hnw e).mpr (List.mem_cons.mp he))
  have hm : Sub I rest := mem_rest hI S.off hnw
  have mi := hm _ S.inst
  obtain ⟨oc, od, fd, sl, mf⟩ := S.fn
  have mf := hm _ mf
  clear hI U N
  have D0 : KtsDicts [] h₀ := ktsDicts_nil
  have h256 := oct_lt b q
  have hcs : q = b.size ∨ (q < b.size ∧ q + 1 + oct b q ≤ b.size) ∨ (q < b.size ∧ b.size < q + 1 + oct b q) := by omega
  rcases hcs with h1 | ⟨h1, h2⟩ | ⟨h1, h2⟩
  · refine wpAny_call ?_
    k_dflt ktr_enter
    k_steps
    rename RaisedS _ _ _ _ _ _ _ _ _ => RR
    rename Fr h₀ L _ m => FF
    rename Heap.UpToSlots _ _ => UU
    exact err0 _ _ _ _ _ _ _ h1 FF (raise_fin RR (by rfl) hup) UU
  · obtain ⟨ks, hks⟩ : ∃ ks, KBw.bInts (cutB b (q + 1) (oct b q)) = ks := ⟨_, rfl⟩
    have hsz : (cutB b (q + 1) (oct b q)).size = oct b q := by rw [cutB_size]; omega
    have hkl : ks.length = oct b q := by rw [← hks, KBw.ints_length, hsz]
    refine wpAny_call ?_
    k_dflt ktr_enter
    k_steps
    rename News h₀ L _ _ => NN
    rename Fr h₀ L _ m => FF
    exact ok _ _ _ _ h1 h2 FF (read_fin NN (by rw [hsz]) hup)
  · obtain ⟨ks, hks⟩ : ∃ ks, KBw.bInts (cutB b (q + 1) (oct b q)) = ks := ⟨_, rfl⟩
    have hsz : (cutB b (q + 1) (oct b q)).size = b.size - (q + 1) := by rw [cutB_size]; omega
    have hkl : ks.length = b.size - (q + 1) := by rw [← hks, KBw.ints_length, hsz]
    refine wpAny_call ?_
    k_dflt ktr_enter
    k_steps
    rename RaisedS _ _ _ _ _ _ _ _ _ => RR
    rename Fr h₀ L _ m => FF
    rename Heap.UpToSlots _ _ => UU
    exact err1 _ _ _ _ _ _ _ h1 h2 FF (raise_fin2 RR (by rw [hsz]; omega) (by rw [hkl]) hup) UU
end Mine
end
section
open PySem PySem.W PyProof.Rows PySem.Calls PySem.Spec
set_option Elab.async false
set_option maxRecDepth 100000
set_option maxHeartbeats 8000000
namespace Mine
local macro_rules | `(tactic| k_room) => `(tactic| ktr_room)
local macro_rules | `(tactic| k_units) => `(tactic| ktr_units)
local macro_rules | `(tactic| k_mem) => `(tactic| first | exact List.Mem.head _ | (refine List.mem_cons_of_mem _ ?_; k_mem))
local macro_rules | `(tactic| walk_at "callWith ref") => `(tactic| (k_here; (rename Strm _ _ _ _ _ _ _ _ _ _ _ _ _ _ _ _ => sS); k_dflt (refine' callWith_F ?k1 ?_; (case k1 => exact FnAt.of (by k_asm) (by k_mem)); k_whole)))
local macro_rules | `(tactic| walk_at "call ref") => `(tactic| (k_here; (rename Strm _ _ _ _ _ _ _ _ _ _ _ _ _ _ _ _ => sS); (with_reducible show wpAny _ _ (call (Value.ref _) [Value.int _ _]) _ _ _); k_dflt (first | (refine' strm_read 1 rfl sS ?B ?F ?X ?N ?T ?hk ?hd ?hu ?hI ?U ?hq ?hb ?hn ?_; (case F => k_asm); (case N => k_asm); (case B => k_asm); (case X => k_asm); (case T => k_asm); (case hk => first | rfl | assumption); (case hd => ktr_room); (case hu => ktr_units); (case hI => (repeat (first | assumption | refine Sub.cons ?_))); (case U => k_updF); (case hq => omega); (case hb => omega); (case hn => decide)) | (refine' strm_read _ rfl sS ?B ?F ?X ?N ?T ?hk ?hd ?hu ?hI ?U ?hq ?hb ?hn ?_; (case F => k_asm); (case N => k_asm); (case B => k_asm); (case X => k_asm); (case T => k_asm); (case hk => first | rfl | assumption); (case hd => ktr_room); (case hu => ktr_units); (case hI => (repeat (first | assumption | refine Sub.cons ?_))); (case U => k_updF); (case hq => omega); (case hb => omega); (case hn => omega))); intro h' tk' t1 t2 F' N'; (try dsimp only)))
local macro_rules | `(tactic| walk_at "exec Raise some none") => `(tactic| (k_here; (with_reducible show wpAny _ _ (exec (Stmt.Raise (some (Expr.Call (Expr.Name ("ValueError" : Str) _) (_ :: _) [] _)) none _) _) _ _ _); (with_reducible rename Fr _ _ _ _ => kF); k_dflt (refine' Raise_madeB PySem.F.excCall_ValueError PySem.F.excRaise_ValueError ?hh (name_B kF ?k1 ?k2 ?k3 PyProof.Rows.Boot.«ValueError» ?k5 ⟨rfl, ?_⟩) ?a ?b; (case hh => rfl); (case a => rfl); (case b => rfl); (case k1 => k_asm); (case k2 => k_asm); (case k3 => k_is); (case k5 => decide))))
local macro_rules | `(tactic| walk_at "ite") => `(tactic| (k_here; first | (refine ite_pos (by first | omega | (simp only [decide_eq_true_eq, beq_iff_eq]; omega)) ?_) | (refine ite_neg (by first | omega | (simp only [decide_eq_true_eq, beq_iff_eq]; omega)) ?_)))
local macro_rules | `(tactic| walk_at "binaryOp Mod str ref") => `(tactic| (k_here; k_dflt (first | ((with_reducible show wpAny _ _ (binaryOp _ (Value.str (Str.ofString "expected %d bytes in a bytes1, but only %d remain") _) _) _ _ _); refine' modB ?N ?b ?a1 ?a2 ?a3 ?a4 ?_; (case N => k_asm); (case b => k_mem); (case a1 => omega); (case a2 => omega); (case a3 => omega); (case a4 => omega)) | ((with_reducible show wpAny _ _ (binaryOp _ (Value.str (Str.ofString "expected %d bytes in a string1, but only %d remain") _) _) _ _ _); refine' modS ?N ?b ?a1 ?a2 ?a3 ?a4 ?_; (case N => k_asm); (case b => k_mem); (case a1 => omega); (case a2 => omega); (case a3 => omega); (case a4 => omega))); intro _ _))
local macro_rules | `(tactic| walk_at "call ref") => `(tactic| (k_here; (rename Strm _ _ _ _ _ _ _ _ _ _ _ _ _ _ _ _ => sS); (with_reducible show wpAny _ _ (call (Value.ref 21) [Value.ref _]) _ _ _); k_dflt (refine' ru1_ct _ ?B ?F ?X ?N ?T sS ?hI ?U ?hk ?hd ?hu ?hq ?hb (fun h' tk' t1 t2 hlt' F' N' => ?_) (fun g' e' t' u' h' tk' t1 heq' F' R' U' => ?_); (case F => k_asm); (case N => k_asm); (case B => k_asm); (case X => k_asm); (case T => k_asm); (case hk => first | rfl | assumption); (case hd => ktr_room); (case hu => ktr_units); (case hI => (repeat (first | assumption | refine Sub.cons ?_))); (case U => k_updF); (case hq => omega); (case hb => omega)); (all_goals (first | (exfalso; omega) | (try dsimp only)))))
local macro_rules | `(tactic| walk_at "call ref") => `(tactic| (k_here; (rename Strm _ _ _ _ _ _ _ _ _ _ _ _ _ _ _ _ => sS); (with_reducible show wpAny _ _ (call (Value.ref 28) [Value.ref _]) _ _ _); k_dflt (refine' rb1_ct _ ?B ?F ?X ?N ?T sS ?hI ?U ?hk ?hd ?hu ?hq ?hb (fun h' tk' t1 t2 hlt' hle' F' N' => ?_) (fun g' e' t' u' h' tk' t1 heq' F' R' U' => ?_) (fun g' e' t' u' h' tk' t1 heq' hlt' F' R' U' => ?_); (case F => k_asm); (case N => k_asm); (case B => k_asm); (case X => k_asm); (case T => k_asm); (case hk => first | rfl | assumption); (case hd => ktr_room); (case hu => ktr_units); (case hI => (repeat (first | assumption | refine Sub.cons ?_))); (case U => k_updF); (case hq => omega); (case hb => omega)); (all_goals (first | (exfalso; omega) | (try dsimp only)))))
/-- the words of a refusal -/
def rdX (b : Array UInt8) (q : Nat) : Str := if q = b.size then msg0 else msgB (oct b q : Int) ((b.size - (q + 1) : Nat) : Int)
theorem try_ct (w : World) {p : Program} {loose : List Str} {mean : ExcName → Option Value} {mg mb : Str → Option Value}
  {dp un : Nat} {gd : Option (List Code)} {cn : Str} {cs : Scope} {a : Addr} {ccd : Value} {cl : List (Str × Addr)} {outer : List Env} {A₀ : Around} {base h₀ : Heap} {L : Addr} {m : Str → Option Value}
  {news I : List (Addr × Obj)} {upd : Obj → List (Addr × Obj)} {s : Shared} {f dx r : Addr} {k1 k2 tq : Tok} {b : Array UInt8} {q : Nat} {Q E : Value → Shared → Prop}
  (B : Below A₀ base outer h₀) (F : Fr h₀ L s.heap m) (X : (hd05.heap_39 w.params).In h₀) (N : News h₀ L s.heap news) (T : Top p loose mean mg mb h₀)
  (S : Strm Challenge.rw_dm0232_05.row.prog w (hd05.heap_39 w.params) p loose mean mg mb 45 f dx r k1 k2 b I) (hI : Sub I news) (U : UpdF dx (SD w.params k1 k2 r (q : Int) tq) news upd)
  (hk : cs.kind = .function) (hd : dp + 20 < recursionLimit) (hu : un + 120 < cLine) (hq : q ≤ b.size) (hb : b.size ≤ 1048576)
  (XB : (hd05.heap_39 w.params).In base) (TB : Top p loose mean mg mb base) (D : KtsDicts (outer.filterMap (·.frame)) h₀)
  (okT : ∀ h' tk t1 tp u v j, q < b.size → q + 1 + oct b q ≤ b.size → (∀ x ∈ news, x.1 < tp) → Fr h₀ L h' m → News h₀ L h' ((tp, { cls := .type "tuple", data := .seq #[.bytes (cutB b (q + 1) (oct b q)) u, .str (Str.ofString "") v] j }) :: upd (SD w.params k1 k2 r ((q + 1 + oct b q : Nat) : Int) t1)) → Q (.ref tp) { s with heap := h', toks := tk })
  (okR : ∀ g h' tk t1 tp u j, ¬ (q < b.size ∧ q + 1 + oct b q ≤ b.size) → (∀ x ∈ news, x.1 < tp) → KtsTurn (outer.filterMap (·.frame)) h₀ g → Fr g L h' m → News g L h' ((tp, { cls := .type "tuple", data := .seq #[.none, .str (rdX b q) u] j }) :: upd (SD w.params k1 k2 r (b.size : Int) t1)) →
    Below A₀ base outer g → (hd05.heap_39 w.params).In g → Top p loose mean mg mb g → KtsDicts (outer.filterMap (·.frame)) g → Q (.ref tp) { s with heap := h', toks := tk }) :
  wpAny (model Challenge.rw_dm0232_05.row.prog w) (ktrTop dp un gd cn cs L a ccd cl outer) (call (.ref 63) [.ref f]) Q E s := by
  revert X; k_fill; intro X
  have hMk := kstMark
  obtain ⟨rest, hof, hnw, hup⟩ := upd_split U
  have N2 := news_sub (l' := (_, _) :: rest) N (fun e he => (hnw e).mpr (List.mem_cons.mp he))
  have hm : Sub I rest := mem_rest hI S.off hnw
  have mi := hm _ S.inst
  obtain ⟨oc, od, fd, sl, mf⟩ := S.fn
  have mf := hm _ mf
  clear hI U N
  have h256 := oct_lt b q
  have hcs : q = b.size ∨ (q < b.size ∧ q + 1 + oct b q ≤ b.size) ∨ (q < b.size ∧ b.size < q + 1 + oct b q) := by omega
  rcases hcs with h1 | ⟨h1, h2⟩ | ⟨h1, h2⟩
  · have e1 : rdX b q = msg0 := by simp [rdX, h1]
    rw [e1] at okR
    refine wpAny_call ?_
    k_dflt (refine' code_defSY ?k1 ?k2 ?k3 ?k4 ?k5 ?XB ?TB ?D ?kA ?k6 ?k7 ?k8 ?k9 ?kB ?_ ?cK ?c2 ?c3 ?c4 ?c5; (case kA => exact rfl); (case k2 => k_asm); (case k1 => k_asm); (case k3 => k_asm); (case k4 => k_asm); (case k5 => k_asm); (case XB => assumption); (case TB => assumption); (case D => assumption); (case k6 => k_is); (case k7 => k_is); (case k8 => k_room); (case k9 => exact BindsTo.of_eq rfl); (case kB => exact locs rfl); (case cK => assumption); (case c2 => exact rfl); (case c3 => exact rfl); (case c4 => exact rfl); (case c5 => decide); k_whole; intro g' L' h' FG' F' N' B' X' T' D'; (try dsimp only); (try k_lift B'); (try k_fold))

    k_steps
    rename News _ L _ _ => NN
    rename Fr _ L _ m => FF
    rename KtsTurn (List.filterMap _ outer) _ _ => TT
    rename Below _ base outer _ => BB
    rename Frag.In _ _ => XX
    rename Top _ _ _ _ _ _ => PP
    rename KtsDicts (List.filterMap _ outer) _ => DD
    exact okR _ _ _ _ _ _ _ (by omega) (lt_all (by assumption) hnw) TT FF (news_x2 NN rfl rfl hup) BB XX PP DD
  · refine wpAny_call ?_
    k_dflt (refine' code_defSY ?k1 ?k2 ?k3 ?k4 ?k5 ?XB ?TB ?D ?kA ?k6 ?k7 ?k8 ?k9 ?kB ?_ ?cK ?c2 ?c3 ?c4 ?c5; (case kA => exact rfl); (case k2 => k_asm); (case k1 => k_asm); (case k3 => k_asm); (case k4 => k_asm); (case k5 => k_asm); (case XB => assumption); (case TB => assumption); (case D => assumption); (case k6 => k_is); (case k7 => k_is); (case k8 => k_room); (case k9 => exact BindsTo.of_eq rfl); (case kB => exact locs rfl); (case cK => assumption); (case c2 => exact rfl); (case c3 => exact rfl); (case c4 => exact rfl); (case c5 => decide); k_whole; intro g' L' h' FG' F' N' B' X' T' D'; (try dsimp only); (try k_lift B'); (try k_fold))

    k_steps
    rename News h₀ L _ _ => NN
    rename Fr h₀ L _ m => FF
    exact okT _ _ _ _ _ _ _ h1 h2 (lt_all (by assumption) hnw) FF (news_x2 NN rfl rfl hup)
  · have e1 : rdX b q = msgB (oct b q : Int) ((b.size - (q + 1) : Nat) : Int) := by simp [rdX, Nat.ne_of_lt h1]
    rw [e1] at okR
    refine wpAny_call ?_
    k_dflt (refine' code_defSY ?k1 ?k2 ?k3 ?k4 ?k5 ?XB ?TB ?D ?kA ?k6 ?k7 ?k8 ?k9 ?kB ?_ ?cK ?c2 ?c3 ?c4 ?c5; (case kA => exact rfl); (case k2 => k_asm); (case k1 => k_asm); (case k3 => k_asm); (case k4 => k_asm); (case k5 => k_asm); (case XB => assumption); (case TB => assumption); (case D => assumption); (case k6 => k_is); (case k7 => k_is); (case k8 => k_room); (case k9 => exact BindsTo.of_eq rfl); (case kB => exact locs rfl); (case cK => assumption); (case c2 => exact rfl); (case c3 => exact rfl); (case c4 => exact rfl); (case c5 => decide); k_whole; intro g' L' h' FG' F' N' B' X' T' D'; (try dsimp only); (try k_lift B'); (try k_fold))

    k_steps
    rename News _ L _ _ => NN
    rename Fr _ L _ m => FF
    rename KtsTurn (List.filterMap _ outer) _ _ => TT
    rename Below _ base outer _ => BB
    rename Frag.In _ _ => XX
    rename Top _ _ _ _ _ _ => PP
    rename KtsDicts (List.filterMap _ outer) _ => DD
    exact okR _ _ _ _ _ _ _ (by omega) (lt_all (by assumption) hnw) TT FF (news_x2 NN rfl rfl hup) BB XX PP DD
end Mine
end
section
open PySem PySem.W PyProof.Rows PySem.Calls PySem.Spec
set_option Elab.async false
set_option maxRecDepth 100000
set_option maxHeartbeats 8000000
namespace Mine
local macro_rules | `(tactic| k_room) => `(tactic| ktr_room)
local macro_rules | `(tactic| k_units) => `(tactic| ktr_units)
local macro_rules | `(tactic| k_mem) => `(tactic| first | exact List.Mem.head _ | (refine List.mem_cons_of_mem _ ?_; k_mem))
local macro_rules | `(tactic| lcg_src) => `(tactic| first | exact List.Mem.head _ | (refine List.mem_cons_of_mem _ ?_; lcg_src) | assumption)
local macro_rules | `(tactic| walk_at "callWith ref") => `(tactic| (k_here; (rename Strm _ _ _ _ _ _ _ _ _ _ _ _ _ _ _ _ => sS); k_dflt (refine' callWith_F ?k1 ?_; (case k1 => exact FnAt.of (by k_asm) (by k_mem)); k_whole)))
local macro_rules | `(tactic| walk_at "call ref") => `(tactic| (k_here; (rename Strm _ _ _ _ _ _ _ _ _ _ _ _ _ _ _ _ => sS); (with_reducible show wpAny _ _ (call (Value.ref _) [Value.int _ _]) _ _ _); k_dflt (first | (refine' strm_read 1 rfl sS ?B ?F ?X ?N ?T ?hk ?hd ?hu ?hI ?U ?hq ?hb ?hn ?_; (case F => k_asm); (case N => k_asm); (case B => k_asm); (case X => k_asm); (case T => k_asm); (case hk => first | rfl | assumption); (case hd => ktr_room); (case hu => ktr_units); (case hI => (repeat (first | assumption | refine Sub.cons ?_))); (case U => k_updF); (case hq => omega); (case hb => omega); (case hn => decide)) | (refine' strm_read _ rfl sS ?B ?F ?X ?N ?T ?hk ?hd ?hu ?hI ?U ?hq ?hb ?hn ?_; (case F => k_asm); (case N => k_asm); (case B => k_asm); (case X => k_asm); (case T => k_asm); (case hk => first | rfl | assumption); (case hd => ktr_room); (case hu => ktr_units); (case hI => (repeat (first | assumption | refine Sub.cons ?_))); (case U => k_updF); (case hq => omega); (case hb => omega); (case hn => omega))); intro h' tk' t1 t2 F' N'; (try dsimp only)))
local macro_rules | `(tactic| walk_at "exec Raise some none") => `(tactic| (k_here; (with_reducible show wpAny _ _ (exec (Stmt.Raise (some (Expr.Call (Expr.Name ("ValueError" : Str) _) (_ :: _) [] _)) none _) _) _ _ _); (with_reducible rename Fr _ _ _ _ => kF); k_dflt (refine' Raise_madeB PySem.F.excCall_ValueError PySem.F.excRaise_ValueError ?hh (name_B kF ?k1 ?k2 ?k3 PyProof.Rows.Boot.«ValueError» ?k5 ⟨rfl, ?_⟩) ?a ?b; (case hh => rfl); (case a => rfl); (case b => rfl); (case k1 => k_asm); (case k2 => k_asm); (case k3 => k_is); (case k5 => decide))))
local macro_rules | `(tactic| walk_at "ite") => `(tactic| (k_here; first | (refine ite_pos (by first | omega | (simp only [decide_eq_true_eq, beq_iff_eq]; omega)) ?_) | (refine ite_neg (by first | omega | (simp only [decide_eq_true_eq, beq_iff_eq]; omega)) ?_)))
local macro_rules | `(tactic| walk_at "binaryOp Mod str ref") => `(tactic| (k_here; k_dflt (first | ((with_reducible show wpAny _ _ (binaryOp _ (Value.str (Str.ofString "expected %d bytes in a bytes1, but only %d remain") _) _) _ _ _); refine' modB ?N ?b ?a1 ?a2 ?a3 ?a4 ?_; (case N => k_asm); (case b => k_mem); (case a1 => omega); (case a2 => omega); (case a3 => omega); (case a4 => omega)) | ((with_reducible show wpAny _ _ (binaryOp _ (Value.str (Str.ofString "expected %d bytes in a string1, but only %d remain") _) _) _ _ _); refine' modS ?N ?b ?a1 ?a2 ?a3 ?a4 ?_; (case N => k_asm); (case b => k_mem); (case a1 => omega); (case a2 => omega); (case a3 => omega); (case a4 => omega))); intro _ _))
local macro_rules | `(tactic| walk_at "call builtin:len") => `(tactic| (k_here; (with_reducible show wpAny _ _ (call (Value.builtin "len") [Value.ref _]) _ _ _); k_dflt (refine' kst_len ?k1 ?k2 rfl ?k4 ?_; (case k1 => k_asm); (case k2 => lcg_src); (case k4 => ((try simp only [List.length_append, List.length_cons, List.length_nil]); omega)))))
local macro_rules | `(tactic| walk_at "ite") => `(tactic| (k_here; first | (refine ite_pos (by first | omega | (simp only [decide_eq_true_eq, beq_iff_eq, bne_iff_ne, Bool.not_eq_true', beq_eq_false_iff_ne, ne_eq, List.length_append, List.length_cons, List.length_nil]; done) | (simp only [decide_eq_true_eq, beq_iff_eq, bne_iff_ne, Bool.not_eq_true', beq_eq_false_iff_ne, ne_eq, List.length_append, List.length_cons, List.length_nil]; omega)) ?_) | (refine ite_neg (by first | omega | (simp only [decide_eq_true_eq, beq_iff_eq, bne_iff_ne, Bool.not_eq_true', beq_eq_false_iff_ne, ne_eq, List.length_append, List.length_cons, List.length_nil]; done) | (simp only [decide_eq_true_eq, beq_iff_eq, bne_iff_ne, Bool.not_eq_true', beq_eq_false_iff_ne, ne_eq, List.length_append, List.length_cons, List.length_nil]; omega)) ?_)))
local macro_rules | `(tactic| walk_at "call type:bytes") => `(tactic| (k_here; (with_reducible show wpAny _ _ (call (Value.type "bytes") [Value.ref _]) _ _ _); k_dflt (refine' make_bytes ?F ?N ?h ?l ?i ?z ?_; (case F => k_asm); (case N => k_asm); (case h => rfl); (case l => k_mem); (case i => assumption); (case z => ((try rw [cutB_size]); omega))); intro h' t' k' F' N'; (try k_sweep)))
local macro_rules | `(tactic| walk_at "compareOp NotEq bytes bytes") => `(tactic| (k_here; refine ne_bytes_same (by first | rfl | assumption | exact Eq.symm (by assumption)) ?_))
local macro_rules | `(tactic| walk_at "compareOp Eq bytes bytes") => `(tactic| (k_here; refine eq_bytes_same (by first | rfl | assumption | exact Eq.symm (by assumption)) ?_))
local macro_rules | `(tactic| lcg_src) => `(tactic| first | exact List.Mem.head _ | (refine List.mem_cons_of_mem _ ?_; lcg_src) | assumption)
local macro_rules | `(tactic| ked_reads) => `(tactic| first | exact SameL.nil | (refine SameL.cons ?_ ?_; (ked_read); (ked_reads)) | exact SameL.ints (by assumption) (by assumption) | exact SameL.strs (by assumption) (by assumption) | exact SameL.bytes (by assumption) (by assumption))
local macro_rules | `(tactic| ked_read) => `(tactic| first | exact Same.int _ _ _ | exact Same.str _ _ _ | exact Same.bytes _ _ _ | exact Same.rfl _ | (refine same_list (by k_asm) (by lcg_src) (by lcg_src) ?_; ked_reads) | (refine same_tup (by k_asm) (by lcg_src) (by lcg_src) ?_; ked_reads))
local macro_rules | `(tactic| walk_at "compareOp NotEq ref ref") => `(tactic| (k_here; k_dflt (first | (refine' ne_listL ?N ?a ?b ?e ?u ?_; (case N => k_asm); (case a => lcg_src); (case b => lcg_src); (case e => ked_reads); (case u => ktr_units)) | (refine' ne_tupL ?N ?a ?b ?e ?u ?_; (case N => k_asm); (case a => lcg_src); (case b => lcg_src); (case e => ked_reads); (case u => ktr_units)))))
local macro_rules | `(tactic| walk_at "compareOp Eq ref ref") => `(tactic| (k_here; k_dflt (first | (refine' eq_listL ?N ?a ?b ?e ?u ?_; (case N => k_asm); (case a => lcg_src); (case b => lcg_src); (case e => ked_reads); (case u => ktr_units)) | (refine' eq_tupL ?N ?a ?b ?e ?u ?_; (case N => k_asm); (case a => lcg_src); (case b => lcg_src); (case e => ked_reads); (case u => ktr_units)))))
local macro_rules | `(tactic| walk_at "binaryOp Add ref ref") => `(tactic| (k_here; k_dflt (refine' kmk_add_ints ?F ?N ?a ?b ?i ?j ?_ ?z; (case F => k_asm); (case N => k_asm); (case a => refine' isList_at ?N2 ?m2; (case N2 => k_asm); (case m2 => lcg_src)); (case b => refine' isList_at ?N3 ?m3; (case N3 => k_asm); (case m3 => lcg_src)); (case i => assumption); (case j => assumption); (case z => (simp only [sizeLine_eq, List.length_cons, List.length_nil, List.length_map, List.length_range, List.length_drop]; omega))); intro D' ws' h' F' N' l1 hI'; (try k_lt l1)))

theorem ints_rsnoc {ys : List Value} {i : Nat} {f : Nat → Int} {t : Tok} {c : Int} (h : IntsAre ys ((List.range i).map f)) (e : c = f i) : IntsAre (ys ++ [.int c t]) ((List.range (i + 1)).map f) := by
  rw [List.range_succ, List.map_append, e]; exact ints_snoc h _ _
theorem in_app {a b : List Int} (h : KBa.In a) (h' : KBa.In b) : KBa.In (a ++ b) := fun x hx => (List.mem_append.mp hx).elim (h x) (h' x)
theorem news_k1 {h₀ h : Heap} {L : Addr} {a b c d : Addr × Obj} {R : List (Addr × Obj)} (N : News h₀ L h (a :: b :: c :: d :: R)) : News h₀ L h (b :: d :: R) := news_sub N fun q hq => by
  simp only [List.mem_cons] at hq ⊢; rcases hq with h | h | h <;> simp [h]
theorem pack1 {h₀ h : Heap} {L : Addr} {d a m c : Addr × Obj} {I T rest : List (Addr × Obj)} (N : News h₀ L h (d :: (I ++ (T ++ ([a, m] ++ rest))))) (hc : c ∈ rest) : ∃ R1, R1 = I ++ (T ++ ([a, m] ++ rest)) ∧ News h₀ L h (d :: c :: a :: R1) := ⟨_, rfl, news_sub N fun q hq => by
  simp only [List.mem_cons, List.mem_append, List.not_mem_nil, or_false] at hq ⊢
  rcases hq with h | h | h | h
  · exact .inl h
  · subst h; simp [hc]
  · simp [h]
  · simp [h]⟩
theorem oct_arr {ks : List Int} (h : KBa.In ks) (p : Nat) : (oct (byteArr ks) p : Int) = ks.getD p 0 := by
  have e : KBw.bInts (byteArr ks) = ks := by
    unfold KBw.bInts byteArr
    simp only [List.map_map]
    conv => rhs; rw [← List.map_id ks]
    refine List.map_congr_left fun k hk => ?_
    have := h k hk
    simp only [Function.comp_apply, id_eq]
    rw [Nat.toUInt8, UInt8.toNat_ofNat']
    omega
  rw [← ints_getD, e]
theorem getD_app0 {ci ad : List Int} {k n : Nat} (hl : ci.length = k + 1) (h0 : ci.getD 0 0 = (n : Int)) : (ci ++ ad).getD 0 0 = (n : Int) := by
  cases ci with
  | nil => simp at hl
  | cons c r => simpa using h0
theorem oct_head {ci ad : List Int} {k n : Nat} (hi : KBa.In (ci ++ ad)) (hl : ci.length = k + 1) (h0 : ci.getD 0 0 = (n : Int)) : oct (byteArr (ci ++ ad)) 0 = n := by
  have := oct_arr hi 0
  rw [getD_app0 hl h0] at this
  omega
theorem cut_tail {ci ad : List Int} {k n : Nat} (hi : KBa.In (ci ++ ad)) (hl : ci.length = k + 1) (hn : (ci ++ ad).length = n + 1 ∧ oct (byteArr (ci ++ ad)) 0 = n) : cutB (byteArr (ci ++ ad)) (0 + 1) (oct (byteArr (ci ++ ad)) 0) = byteArr (List.drop (Int.toNat 1) ci ++ ad) := by
  rw [hn.2]
  cases ci with
  | nil => simp at hl
  | cons c r =>
    have hl2 : (r ++ ad).length = n := by have := hn.1; simpa using this
    show cutB (byteArr (c :: (r ++ ad))) 1 n = byteArr (r ++ ad)
    unfold cutB byteArr
    simp only [List.map_cons, List.drop_succ_cons, List.drop_zero]
    rw [List.take_of_length_le (by rw [List.length_map]; omega)]
theorem lack_ct (w : World) {p : Program} {loose : List Str} {mean : ExcName → Option Value} {mg mb : Str → Option Value}
  {dp un : Nat} {gd : Option (List Code)} {cn : Str} {cs : Scope} {a : Addr} {ccd : Value} {cl : List (Str × Addr)} {A₀ : Around} {base h₀ : Heap} {L : Addr} {m : Str → Option Value}
  {rest T : List (Addr × Obj)} {s : Shared} {Dc : Addr} {cv : List Value} {jc n k : Nat} {ci : List Int} {more : Int} {tw tm : Tok} {Q E : Value → Shared → Prop}
  (B : Below A₀ base [] h₀) (F : Fr h₀ L s.heap m) (X : (hd05.heap_39 w.params).In h₀) (N : News h₀ L s.heap (T ++ rest)) (TT : Top p loose mean mg mb h₀)
  (XB : (hd05.heap_39 w.params).In base) (TB : Top p loose mean mg mb base)
  (H : CodeHd h₀ 55 51) (hT : Tab 51 (rawInt 22) (rawInt 4) (Str.ofString "_law_stream.<locals>._law_read") T) (hoff : OwnOff rest [51])
  (hk : cs.kind = .function) (hd : dp + 60 < recursionLimit) (hu : un + 300 < cLine)
  (hcm : (Dc, listOf cv.toArray jc) ∈ rest) (hci : IntsAre cv ci) (hcin : KBa.In ci) (hcl : ci.length = k + 1) (hc0 : ci.getD 0 0 = (n : Int)) (hkn : k < n) (hn : n < 256)
  (ok : ∀ h' tk T', Tab 51 (rawInt 22) (rawInt 4) (Str.ofString "_law_stream.<locals>._law_read") T' → Fr h₀ L h' m → News h₀ L h' (T' ++ rest) → Q (.bool true) { s with heap := h', toks := tk }) :
  wpAny (model Challenge.rw_dm0232_05.row.prog w) (ktrTop dp un gd cn cs L a ccd cl []) (call (.ref 75) [.str (msgB (n : Int) (k : Int)) tw, .ref Dc, .int more tm]) Q E s := by
  revert X; k_fill; intro X
  have hMk := kstMark
  have D0 : KtsDicts [] h₀ := ktsDicts_nil
  obtain ⟨R0, hR0⟩ : ∃ R, R = T ++ rest := ⟨_, rfl⟩
  rw [← hR0] at N
  have hcm0 : (Dc, listOf cv.toArray jc) ∈ R0 := by rw [hR0]; exact List.mem_append_right _ hcm
  refine wpAny_call ?_
  refine' code_defCS ?k1 ?k2 ?k3 ?k4 ?k5 ?kA ?kF ?kK ?k6 ?k7 ?k8 ?k9 ?kB ?kD ?_ ?c2 ?c3 ?c4
  case kA => exact rfl
  case kF => exact rfl
  case kK => assumption
  case k1 => k_asm
  case k2 => k_asm
  case k3 => k_asm
  case k4 => k_asm
  case k5 => k_asm
  case k6 => k_is
  case k7 => k_is
  case k8 => ktr_room
  case k9 => exact BindsTo.of_eq rfl
  case kB => exact rfl
  case kD => decide +kernel
  case c2 => exact rfl
  case c3 => exact rfl
  case c4 => exact rfl
  intro g' L' h' tk' cells' FG' F' N' Y' B' X' T' D' l1
  (try k_lt l1)
  have H' : CodeHd g' 55 51 := H.keeps FG'.keep
  k_cells Y'
  (try simp only [List.cons_append, List.nil_append] at N')
  (try dsimp only)
  (try k_lift B')
  (try k_fold)
  repeat' (first | (k_unfold; (try dsimp only)) | ((fail_if_success (with_reducible show wpAny _ _ (call (Value.builtin "str.split") _) _ _ _)); first | (k_end; wrow_close) | walk1 | (dsimp only; walk1) | (leave1; try dsimp only)))
  rename Fr g' L' _ _ => F1
  rename News g' L' _ _ => N1
  refine split_words F1 N1 (by omega) (by omega) (by omega) (by omega) ?_
  intro Dp h1 j1 t0 t1 t2 t3 t4 t5 t6 t7 t8 t9 hlt1 F2 N2
  clear F1 N1
  repeat' (first | (k_unfold; (try dsimp only)) | ((fail_if_success (with_reducible show wpAny _ _ (exec (Stmt.Assign _ (Expr.ListComp _ _ _ _) _) _) _ _ _)); first | (k_end; wrow_close) | walk1 | (dsimp only; walk1) | (leave1; try dsimp only)))
  k_dflt (refine LCg.Assign_ListComp_U (F₀ := by k_asm) (by rfl) (by with_unfolding_all rfl) (by with_unfolding_all rfl) (by decide) (by rfl) (by decide) (by rfl) (by rfl) (by rfl) ?_)
  repeat' (first | (k_unfold; (try dsimp only)) | ((fail_if_success (with_reducible show LCg.CompSrc _ _ _ _ _ _ _ _ _ _ _ _ _ _)); first | (k_end; wrow_close) | walk1 | (dsimp only; walk1) | (leave1; try dsimp only)))
  rename IsRange _ _ _ _ _ _ _ _ => rg
  k_dflt (refine LCg.CompSrc.range (n := n - k) (by rfl) (by k_asm) (by k_asm) rg ?sm ?rs ?sz ?_)
  case sm => exact small_one (by omega) (by omega) (by omega) (by omega)
  case rs => rw [rangeSize_one]; omega
  case sz => simp only [sizeLine_eq]; omega
  intro g9
  refine restU1 (fun i ys => IntsAre ys ((List.range i).map (fun j : Nat => (more + (j : Int)).fmod 256))) trivial .nil ?fin0 ?turn0
  case turn0 =>
    rintro i v ys I oI C oC D m₂ h3 tk3 E' hi ⟨tv, rfl⟩ hJ hC hx F3 N3 off3 ne3
    clear rg
    k_steps
    rename Fr _ _ _ _ => FF
    rename News _ _ _ _ => NN
    exact CEnd1.intro FF NN (fun p hp => hp) (ints_rsnoc hJ (by rw [Int.zero_add]))
  case fin0 =>
    intro ys hJ
    clear rg
    obtain ⟨ad, had⟩ : ∃ ad, ad = (List.range (n - k)).map (fun j : Nat => (more + (j : Int)).fmod 256) := ⟨_, rfl⟩
    rw [← had] at hJ
    have hadl : ad.length = n - k := by rw [had]; simp
    have hadin : KBa.In ad := by
      intro x hx; rw [had] at hx; obtain ⟨j, _, rfl⟩ := List.mem_map.mp hx; exact ⟨fmod_lo _ (by decide), fmod_hi _ (by decide)⟩
    have hyl := hJ.length
    have hcvl := hci.length
    (rename Fr _ _ _ _ => FF; clear FF)
    (rename News _ _ _ _ => NN; clear NN)
    unfold LCg.FinA
    intro Da h4 tk4 F4 N4 o4
    clear o4
    have hInA : KBa.In (ci ++ ad) := in_app hcin hadin
    have hInB : KBa.In (List.drop (Int.toNat 1) ci ++ ad) := in_app (fun x hx => hcin x (List.mem_of_mem_drop hx)) hadin
    have hInC : KBa.In (ci ++ List.drop (Int.toNat 1) ad) := in_app hcin (fun x hx => hadin x (List.mem_of_mem_drop hx))
    repeat' (first | (k_unfold; (try dsimp only)) | ((fail_if_success (with_reducible show wpAny _ _ (call (Value.ref 56) _) _ _ _)); first | (k_end; wrow_close) | walk1 | (dsimp only; walk1) | (leave1; try dsimp only)))
    rename Fr g' L' _ _ => F5
    rename News g' L' _ _ => N5
    have N6 := news_k1 N5
    obtain ⟨ps0, mps0⟩ := hT.mem
    k_dflt (refine stream_ct w (T := T) B' F5 X' (mid_T (pre := [_, _]) N6 hR0) T' H' hT ?off rfl ?_ ?_)
    case off => exact offP (ps := ps0) (pre := [_, _]) N6 hR0 mps0 (noFldL_cons (noFld_seq rfl) (noFldL_cons (noFld_cell (by assumption)) noFldL_nil)) hoff
    · ktr_room
    intro f dx r k1 k2 tp0 I T2 h2 tk2 S hT2 o1 o2 o3 F6 N7
    clear F5 N5 N6
    obtain ⟨R1, hR1, N8⟩ := pack1 N7 hcm
    have oR : OwnOff R1 [dx] := by
      intro q hq c hc; rw [hR1] at hq; simp only [List.mem_append] at hq; rcases hq with h | h | h
      · exact S.off q h c hc
      · exact o2 q h c hc
      · exact o3 q (List.mem_append.mpr h) c hc
    have hm : Sub I R1 := fun e he => by rw [hR1]; simp [he]
    have mi := hm _ S.inst
    have mc : (Dc, listOf cv.toArray jc) ∈ R1 := by rw [hR1]; simp [hcm]
    have ma : (Da, LCg.lst ys) ∈ R1 := by rw [hR1]; simp
    have nDc : (Dc : Nat) ≠ dx := oR _ mc dx (List.mem_singleton.mpr rfl)
    have nDa : (Da : Nat) ≠ dx := oR _ ma dx (List.mem_singleton.mpr rfl)
    have hb1s : (byteArr (ci ++ ad)).size = n + 1 := by rw [byteArr_size, List.length_append]; omega
    have ho1 : oct (byteArr (ci ++ ad)) 0 = n := oct_head hInA hcl hc0
    have hcut1 : cutB (byteArr (ci ++ ad)) (0 + 1) (oct (byteArr (ci ++ ad)) 0) = byteArr (List.drop (Int.toNat 1) ci ++ ad) := cut_tail hInA hcl ⟨by rw [List.length_append]; omega, ho1⟩
    clear o1 o2 o3 N7
    repeat' (first | (k_unfold; (try dsimp only)) | ((fail_if_success (with_reducible show wpAny _ _ (call (Value.ref 63) _) _ _ _)); first | (k_end; wrow_close) | walk1 | (dsimp only; walk1) | (leave1; try dsimp only)))
    rename Fr g' L' _ _ => F7
    rename News g' L' _ _ => N9
    have hU : ∀ q ∈ (Dc, listOf cv.toArray jc) :: (Da, LCg.lst ys) :: R1, q.1 ≠ dx := by
      intro q hq
      simp only [List.mem_cons] at hq
      rcases hq with rfl | rfl | hq
      · exact nDc
      · exact nDa
      · exact oR q hq dx (List.mem_singleton.mpr rfl)
    k_dflt (refine try_ct w (q := 0) (tq := tp0) B' F7 X' N9 T' S ?hI (UpdF.head hU) rfl ?_ ?_ (Nat.zero_le _) (by omega) (by assumption) (by assumption) D' ?okT ?okR)
    case hI => exact Sub.cons (Sub.cons (Sub.cons hm))
    · ktr_room
    · ktr_units
    case okR => intro _ _ _ _ _ _ _ hno; exact absurd ⟨by omega, by omega⟩ hno
    intro h8 tk8 t18 tp8 u8 v8 j8 hlt8 hle8 hnew8 F8 N10
    rw [hcut1, ho1] at N10
    clear F7 N9
    have hIa := hJ
    repeat' (first | (k_unfold; (try dsimp only)) | ((fail_if_success (with_reducible show wpAny _ _ (call (Value.ref 56) _) _ _ _)); first | (k_end; wrow_close) | walk1 | (dsimp only; walk1) | (leave1; try dsimp only)))
    rename Fr g' L' _ _ => F5
    rename News g' L' _ _ => N5
    have hsub : ∀ q ∈ T2 ++ rest, q ∈ R1 := fun q hq => by
      rw [hR1]; simp only [List.mem_append] at hq ⊢; rcases hq with h | h <;> simp [h]
    have N6 : News g' L' _ (T2 ++ rest) := news_sub N5 fun q hq => by have := hsub q hq; simp [this]
    k_dflt (refine stream_ct w (T := T2) (rest := rest) B' F5 X' N6 T' H' hT2 hoff rfl ?_ ?_)
    · ktr_room
    clear F5 N5 N6
    intro f' dx' r' k1' k2' tp' I' T3 h3' tk3' S' hT3 o1' o2' o3' F6 N7
    obtain ⟨R3, hR3⟩ : ∃ R, R = I' ++ (T3 ++ rest) := ⟨_, rfl⟩
    rw [← hR3] at N7
    have oR3 : OwnOff R3 [dx'] := by
      intro q hq c hc; rw [hR3] at hq; simp only [List.mem_append] at hq; rcases hq with h | h | h
      · exact S'.off q h c hc
      · exact o2' q h c hc
      · exact o3' q h c hc
    have hm3 : Sub I' R3 := fun e he => by rw [hR3]; simp [he]
    have hs2 : (byteArr (ci ++ List.drop 1 ad)).size = n := by rw [byteArr_size, List.length_append, List.length_drop]; omega
    have hInC2 : KBa.In (ci ++ List.drop 1 ad) := hInC
    have ho2 : oct (byteArr (ci ++ List.drop 1 ad)) 0 = n := oct_head hInC2 hcl hc0
    have hrd : rdX (byteArr (ci ++ List.drop 1 ad)) 0 = msgB (n : Int) ((n : Int) - 1) := by
      unfold rdX
      rw [if_neg (by omega), ho2, hs2]
      rw [show ((n - (0 + 1) : Nat) : Int) = (n : Int) - 1 by omega]
    clear o1' o2' o3' S hU oR hm mi mc ma nDc nDa hsub hnew8
    repeat' (first | (k_unfold; (try dsimp only)) | ((fail_if_success (with_reducible show wpAny _ _ (call (Value.ref 63) _) _ _ _)); first | (k_end; wrow_close) | walk1 | (dsimp only; walk1) | (leave1; try dsimp only)))
    rename Fr g' L' _ _ => F7
    rename News g' L' _ _ => N9
    k_dflt (refine try_ct w (q := 0) (tq := tp') B' F7 X' N9 T' S' (Sub.cons hm3) (UpdF.head (fun q hq => oR3 q hq dx' (List.mem_singleton.mpr rfl))) rfl ?_ ?_ (Nat.zero_le _) (by omega) (by assumption) (by assumption) D' ?okT2 ?okR2)
    · ktr_room
    · ktr_units
    case okT2 => intro _ _ _ _ _ _ _ hx1 hx2; exfalso; omega
    intro g1 h9 tk9 t19 tp9 u9 j9 hno hnew9 T9 F9 N10 B9 X9 P9 D9
    rw [hrd] at N10
    clear F7 N9 hrd hno
    k_steps
    rename News h₀ L _ _ => NN
    rename Fr h₀ L _ m => FF
    exact ok _ _ T3 hT3 FF (news_sub NN fun q hq => by
      have h9 : q ∈ R3 := by rw [hR3]; exact List.mem_append_right _ hq
      simp [h9])
end Mine
end
section
open PySem PySem.W PyProof.Rows PySem.Calls PySem.Spec
set_option Elab.async false
namespace Mine
/-- the place behind n items -/
def nth (b : Array UInt8) : Nat → Nat
  | 0 => 0
  | n + 1 => nth b n + 1 + oct b (nth b n)
def Stuck (b : Array UInt8) (p : Nat) : Prop := ¬ (p < b.size ∧ p + 1 + oct b p ≤ b.size)
/-- the marks found so far, the last one p -/
inductive Mk (b : Array UInt8) : List Int → Nat → Prop where
  | nil : Mk b [0] 0
  | snoc {es : List Int} {p : Nat} {e : Int} : Mk b es p → p < b.size → p + 1 + oct b p ≤ b.size → e = ((p + 1 + oct b p : Nat) : Int) → Mk b (es ++ [e]) (p + 1 + oct b p)
theorem Mk.last {b : Array UInt8} {es : List Int} {p : Nat} (h : Mk b es p) : (∃ pre, es = pre ++ [(p : Int)]) ∧ p ≤ b.size ∧ es.length ≤ p + 1 := by
  induction h with
  | nil => exact ⟨⟨[], rfl⟩, Nat.zero_le _, by simp⟩
  | snoc _ _ h2 he ih => subst he; exact ⟨⟨_, rfl⟩, h2, by rw [List.length_append, List.length_singleton]; omega⟩
def itm (b : Array UInt8) (es : List Int) (k : Nat) : Array UInt8 := cutB b ((es.getD k 0).toNat + 1) ((es.getD (k + 1) 0).toNat - ((es.getD k 0).toNat + 1))
theorem Mk.is {b : Array UInt8} {es : List Int} {p : Nat} (h : Mk b es p) : es = (List.range es.length).map (fun k => (nth b k : Int)) ∧ 1 ≤ es.length ∧ p = nth b (es.length - 1) ∧ ∀ k, k + 1 < es.length → nth b (k + 1) ≤ b.size := by
  induction h with
  | nil => exact ⟨rfl, by simp, rfl, fun k hk => by simp at hk⟩
  | @snoc es p e h1 h2 h3 he ih =>
    obtain ⟨e1, e2, e3, e4⟩ := ih
    rw [List.length_append, List.length_singleton]
    obtain ⟨m, hm⟩ : ∃ m, es.length = m + 1 := ⟨es.length - 1, by omega⟩
    have hn : nth b (m + 1) = p + 1 + oct b p := by rw [nth]; rw [hm] at e3; simp only [Nat.add_sub_cancel] at e3; rw [← e3]
    refine ⟨?_, by omega, by rw [hm, Nat.add_sub_cancel, hn], fun k hk => ?_⟩
    · rw [List.range_succ, List.map_append, ← e1, List.map_singleton, hm, hn, he]
    · by_cases hlt : k + 1 < es.length
      · exact e4 k hlt
      · rw [show k + 1 = m + 1 by omega, hn]; exact h3
theorem mk_get {b : Array UInt8} {es : List Int} {p k : Nat} (h : Mk b es p) (hk : k < es.length) : es.getD k 0 = (nth b k : Int) := by
  have e := h.is.1
  rw [e, List.getD_eq_getElem?_getD, List.getElem?_map, List.getElem?_range hk]; rfl
theorem mk_itm {b : Array UInt8} {es : List Int} {p k : Nat} (h : Mk b es p) (hk : k + 1 < es.length) : itm b es k = cutB b (nth b k + 1) (oct b (nth b k)) := by
  unfold itm
  rw [mk_get h hk, mk_get h (by omega), Int.toNat_natCast, Int.toNat_natCast, nth]
  congr 1; omega
theorem nth_lt (b : Array UInt8) {i j : Nat} (h : i < j) : nth b i < nth b j := by
  induction j with
  | zero => omega
  | succ j ih =>
    rw [nth]
    by_cases e : i = j
    · subst e; omega
    · have := ih (by omega); omega
theorem nth_le (b : Array UInt8) {i j : Nat} (h : i ≤ j) : nth b i ≤ nth b j := by
  rcases Nat.lt_or_eq_of_le h with h | h
  · exact Nat.le_of_lt (nth_lt b h)
  · rw [h]; exact Nat.le_refl _
theorem nth_ge (b : Array UInt8) (i : Nat) : i ≤ nth b i := by
  induction i with
  | zero => exact Nat.zero_le _
  | succ i ih => rw [nth]; omega
/-- a mark from which an item goes on is not the last -/
theorem mk_more {b : Array UInt8} {es : List Int} {p c : Nat} (h : Mk b es p) (hs : Stuck b p) (hc : c < es.length) (h1 : nth b c < b.size) (h2 : nth b c + 1 + oct b (nth b c) ≤ b.size) : c + 1 < es.length := by
  by_cases e : c + 1 < es.length
  · exact e
  · have e1 : c = es.length - 1 := by omega
    have e2 := h.is.2.2.1
    rw [← e1] at e2
    exact absurd ⟨h1, h2⟩ (e2 ▸ hs)
theorem filter_nth (b : Array UInt8) (x : Nat) : ∀ (n c : Nat), c < n → nth b c ≤ x → x < nth b (c + 1) → ((List.range n).map (fun k => (nth b k : Int))).filter (fun k => decide (k ≤ (x : Int))) = (List.range (c + 1)).map (fun k => (nth b k : Int)) := by
  intro n
  induction n with
  | zero => intro c hc; omega
  | succ n ih =>
    intro c hc h1 h2
    rw [List.range_succ, List.map_append, List.filter_append, List.map_singleton]
    by_cases e : c = n
    · subst e
      rw [List.filter_eq_self.mpr ?_, List.filter_cons_of_pos (by simpa using h1), List.filter_nil, List.range_succ, List.map_append, List.map_singleton]
      intro k hk
      obtain ⟨j, hj, rfl⟩ := List.mem_map.mp hk
      have := nth_lt b (List.mem_range.mp hj)
      simp only [decide_eq_true_eq]; omega
    · have := nth_le b (show c + 1 ≤ n by omega)
      rw [ih c (by omega) h1 h2, List.filter_cons_of_neg (by simp; omega), List.filter_nil, List.append_nil]
theorem mk_filter {b : Array UInt8} {es : List Int} {p c x : Nat} (h : Mk b es p) (hc : c < es.length) (h1 : nth b c ≤ x) (h2 : x < nth b (c + 1)) : es.filter (fun k => decide (k ≤ (x : Int))) = (List.range (c + 1)).map (fun k => (nth b k : Int)) := by
  rw [h.is.1]
  exact filter_nth b x _ c hc h1 h2
end Mine
end
section
open PySem PySem.W PyProof.Rows PySem.Calls PySem.Spec
set_option Elab.async false
set_option maxRecDepth 100000
set_option maxHeartbeats 8000000
namespace Mine
theorem eq_int_same {prog : Program} {w : World} {A : Around} {E : Value → Shared → Prop} {s : Shared} {i : Int} {t u : Tok} {Q : Value → Shared → Prop} (h : Q (.bool true) s) : wpAny (model prog w) A (compareOp .Eq (.int i t) (.int i u)) Q E s :=
  PySem.SeqAt.RcAt.int_int i t i u prog w E Q (by simpa using h)
theorem eq_int_diff {prog : Program} {w : World} {A : Around} {E : Value → Shared → Prop} {s : Shared} {i j : Int} {t u : Tok} {Q : Value → Shared → Prop} (e : i ≠ j) (h : Q (.bool false) s) : wpAny (model prog w) A (compareOp .Eq (.int i t) (.int j u)) Q E s :=
  PySem.SeqAt.RcAt.int_int i t j u prog w E Q (by rw [show (i == j) = false by simpa using e]; exact h)
theorem ne_int_same {prog : Program} {w : World} {A : Around} {E : Value → Shared → Prop} {s : Shared} {i : Int} {t u : Tok} {Q : Value → Shared → Prop} (h : Q (.bool false) s) : wpAny (model prog w) A (compareOp .NotEq (.int i t) (.int i u)) Q E s :=
  PySem.SeqAt.RcNeAt.int_int i t i u prog w E Q (by simpa using h)
theorem eq_str_diff {prog : Program} {w : World} {A : Around} {E : Value → Shared → Prop} {s : Shared} {x y : Str} {t u : Tok} {Q : Value → Shared → Prop} (e : x ≠ y) (h : Q (.bool false) s) : wpAny (model prog w) A (compareOp .Eq (.str x t) (.str y u)) Q E s :=
  PySem.SeqAt.RcAt.str_str x t y u prog w E Q (by rw [show (x == y) = false by simpa using e]; exact h)
local macro_rules | `(tactic| k_room) => `(tactic| ktr_room)
local macro_rules | `(tactic| k_units) => `(tactic| ktr_units)
local macro_rules | `(tactic| k_mem) => `(tactic| first | exact List.Mem.head _ | (refine List.mem_cons_of_mem _ ?_; k_mem))
local macro_rules | `(tactic| lcg_src) => `(tactic| first | exact List.Mem.head _ | (refine List.mem_cons_of_mem _ ?_; lcg_src) | assumption)
local macro_rules | `(tactic| walk_at "call builtin:len") => `(tactic| (k_here; (with_reducible show wpAny _ _ (call (Value.builtin "len") [Value.ref _]) _ _ _); k_dflt (refine' kst_len ?k1 ?k2 rfl ?k4 ?_; (case k1 => k_asm); (case k2 => lcg_src); (case k4 => ((try simp only [List.length_append, List.length_cons, List.length_nil]); omega)))))
local macro_rules | `(tactic| walk_at "ite") => `(tactic| (k_here; first | (refine ite_pos (by first | omega | (simp only [decide_eq_true_eq, beq_iff_eq, bne_iff_ne, Bool.not_eq_true', beq_eq_false_iff_ne, ne_eq, List.length_append, List.length_cons, List.length_nil]; done) | (simp only [decide_eq_true_eq, beq_iff_eq, bne_iff_ne, Bool.not_eq_true', beq_eq_false_iff_ne, ne_eq, List.length_append, List.length_cons, List.length_nil]; omega)) ?_) | (refine ite_neg (by first | omega | (simp only [decide_eq_true_eq, beq_iff_eq, bne_iff_ne, Bool.not_eq_true', beq_eq_false_iff_ne, ne_eq, List.length_append, List.length_cons, List.length_nil]; done) | (simp only [decide_eq_true_eq, beq_iff_eq, bne_iff_ne, Bool.not_eq_true', beq_eq_false_iff_ne, ne_eq, List.length_append, List.length_cons, List.length_nil]; omega)) ?_)))
local macro_rules | `(tactic| walk_at "call type:type") => `(tactic| ((with_reducible show wpAny _ _ (call _ [Value.bytes _ _]) _ _ _); refine call_type_of (Tx := "bytes") rfl (by decide +kernel) ?_))
local macro_rules | `(tactic| walk_at "call type:bytes") => `(tactic| (k_here; (with_reducible show wpAny _ _ (call (Value.type "bytes") [Value.ref _]) _ _ _); k_dflt (refine' make_bytes ?F ?N ?h ?l ?i ?z ?_; (case F => k_asm); (case N => k_asm); (case h => rfl); (case l => k_mem); (case i => assumption); (case z => ((try rw [cutB_size]); omega))); intro h' t' k' F' N'; (try k_sweep)))
local macro_rules | `(tactic| walk_at "compareOp NotEq bytes bytes") => `(tactic| (k_here; refine ne_bytes_same (by first | rfl | assumption | exact Eq.symm (by assumption)) ?_))
local macro_rules | `(tactic| walk_at "compareOp Eq bytes bytes") => `(tactic| (k_here; refine eq_bytes_same (by first | rfl | assumption | exact Eq.symm (by assumption)) ?_))
local macro_rules | `(tactic| walk_at "compareOp NotEq str str") => `(tactic| (k_here; refine ne_str_same (by first | rfl | assumption | exact Eq.symm (by assumption)) ?_))
local macro_rules | `(tactic| walk_at "PostX") => `(tactic| (dsimp only [PostX]))
local macro_rules | `(tactic| lcg_src) => `(tactic| first | exact List.Mem.head _ | (refine List.mem_cons_of_mem _ ?_; lcg_src) | assumption)
local macro_rules | `(tactic| ked_reads) => `(tactic| first | exact SameL.nil | (refine SameL.cons ?_ ?_; (ked_read); (ked_reads)) | exact SameL.ints (by assumption) (by assumption) | exact SameL.strs (by assumption) (by assumption) | exact SameL.bytes (by assumption) (by assumption))
local macro_rules | `(tactic| ked_read) => `(tactic| first | exact Same.int _ _ _ | exact Same.str _ _ _ | exact Same.bytes _ _ _ | exact Same.rfl _ | (refine same_list (by k_asm) (by lcg_src) (by lcg_src) ?_; ked_reads) | (refine same_tup (by k_asm) (by lcg_src) (by lcg_src) ?_; ked_reads))
local macro_rules | `(tactic| walk_at "compareOp NotEq ref ref") => `(tactic| (k_here; k_dflt (first | (refine' ne_listL ?N ?a ?b ?e ?u ?_; (case N => k_asm); (case a => lcg_src); (case b => lcg_src); (case e => ked_reads); (case u => ktr_units)) | (refine' ne_tupL ?N ?a ?b ?e ?u ?_; (case N => k_asm); (case a => lcg_src); (case b => lcg_src); (case e => ked_reads); (case u => ktr_units)))))
local macro_rules | `(tactic| walk_at "compareOp Eq ref ref") => `(tactic| (k_here; k_dflt (first | (refine' eq_listL ?N ?a ?b ?e ?u ?_; (case N => k_asm); (case a => lcg_src); (case b => lcg_src); (case e => ked_reads); (case u => ktr_units)) | (refine' eq_tupL ?N ?a ?b ?e ?u ?_; (case N => k_asm); (case a => lcg_src); (case b => lcg_src); (case e => ked_reads); (case u => ktr_units)))))
local macro_rules | `(tactic| walk_at "subscriptTail") => `(tactic| (k_here; (with_reducible show wpAny _ _ (subscriptTail _ _ (Value.ref _) (Value.int _ _)) _ _ _); k_dflt (refine' last_at ?N ?m ?_ ?hs; (case N => k_asm); (case m => lcg_src); (case hs => with_unfolding_all rfl))))
local macro_rules | `(tactic| walk_at "subscriptTail") => `(tactic| (k_here; (with_reducible show wpAny _ _ (subscriptTail _ _ (Value.ref _) (Value.int _ _)) _ _ _); k_dflt (refine' item_at ?N ?m ?hi ?h0 ?h1 ?h2 ?_ ?hs; (case N => k_asm); (case m => lcg_src); (case hi => assumption); (case h0 => first | assumption | omega); (case h1 => first | assumption | omega); (case h2 => omega); (case hs => with_unfolding_all rfl)); intro t'))
local macro_rules | `(tactic| walk_at "PostY") => `(tactic| (dsimp only [PostY]))
local macro_rules | `(tactic| walk_at "compareOp Eq str str") => `(tactic| (k_here; first | refine eq_str_same rfl ?_ | refine eq_str_diff (by assumption) ?_))
local macro_rules | `(tactic| walk_at "compareOp Eq int int") => `(tactic| (k_here; first | refine eq_int_same ?_ | refine eq_int_diff (by assumption) ?_))
local macro_rules | `(tactic| walk_at "compareOp NotEq int int") => `(tactic| (k_here; refine ne_int_same ?_))
local macro_rules | `(tactic| walk_at "ite") => `(tactic| (k_here; first | refine ite_neg Bool.false_ne_true ?_ | refine ite_pos (Eq.refl true) ?_ | refine ite_pos True.intro ?_))

def octF (x : Int) : Int := if ((x.fdiv 4).fmod 4 == 3) = true then (x.fdiv 4).fmod 256 else (x.fdiv 4).fmod 5
theorem octF_in (x : Int) : 0 ≤ octF x ∧ octF x < 256 := by
  unfold octF
  split
  · exact ⟨fmod_lo _ (by decide), fmod_hi _ (by decide)⟩
  · exact ⟨fmod_lo _ (by decide), Int.lt_trans (fmod_hi _ (by decide)) (by decide)⟩
theorem octF_carried {ys : List Value} {ns : List Int} (h : CarriedAll ys (List.map (fun a => if ((a.fdiv 4).fmod 4 == 3) = true then PyData.int ((a.fdiv 4).fmod 256) else PyData.int ((a.fdiv 4).fmod 5)) (List.filter (fun _ => true) ns))) : IntsAre ys (ns.map octF) := by
  refine CarriedAll.intsOf (f := octF) (as := ns) ?_
  have e : (fun a : Int => PyData.int (octF a)) = fun a => if ((a.fdiv 4).fmod 4 == 3) = true then PyData.int ((a.fdiv 4).fmod 256) else PyData.int ((a.fdiv 4).fmod 5) := by
    funext a; unfold octF; split <;> rfl
  rw [e]
  rw [List.filter_eq_self.mpr (fun _ _ => rfl)] at h
  exact h
theorem sc_name {h : Heap} {a : Addr} {vs : Array Value} (hl : h.IsList a vs) : ∃ b, b = a ∧ h.IsList b vs := ⟨a, rfl, hl⟩
def octsX (ns : List Int) : List Int := [2, 7, 0, 1] ++ (ns.take 40).map octF
theorem octsX_in (ns : List Int) : KBa.In (octsX ns) := by
  intro k hk
  rcases List.mem_append.mp hk with hk | hk
  · simp only [List.mem_cons, List.not_mem_nil, or_false] at hk; omega
  · obtain ⟨y, _, rfl⟩ := List.mem_map.mp hk; exact octF_in y
theorem octsX_len (ns : List Int) : (octsX ns).length = 4 + min 40 ns.length := by unfold octsX; rw [List.length_append, List.length_map, List.length_take]; rfl
theorem bInts_byteArr {ks : List Int} (h : KBa.In ks) : KBw.bInts (byteArr ks) = ks := by
  unfold KBw.bInts byteArr
  simp only [List.map_map]
  conv => rhs; rw [← List.map_id ks]
  refine List.map_congr_left fun k hk => ?_
  have := h k hk
  simp only [Function.comp_apply, id_eq]
  rw [Nat.toUInt8, UInt8.toNat_ofNat']
  omega
theorem cells_pack {h₀ h : Heap} {L Do De C1 C2 C3 : Addr} {oE oO oC tb lo eo : Obj} {x y : Addr × Obj} (N : News h₀ L h [(De, eo), (Do, lo), x, y, (C3, oC), (C2, oE), (C1, oO), (51, tb)]) :
    News h₀ L h [(De, eo), (Do, lo), (C3, oC), (C2, oE), (C1, oO), (51, tb)] := news_sub N fun q hq => by
  simp only [List.mem_cons, List.not_mem_nil, or_false] at hq ⊢; rcases hq with h | h | h | h | h | h <;> simp [h]
theorem slice_bInts (b : Array UInt8) (q n : Nat) : List.take n (List.drop q (KBw.bInts b)) = KBw.bInts (cutB b q n) := by
  unfold KBw.bInts cutB
  rw [← List.map_drop, ← List.map_take]
theorem sizes_carried {ys : List Value} {ns : List Int} (h : CarriedAll ys (List.map (fun a => PyData.int (a.fmod 4)) (List.filter (fun _ => true) ns))) : IntsAre ys (ns.map fun a => a.fmod 4) := by
  refine CarriedAll.intsOf (f := fun a => a.fmod 4) (as := ns) ?_
  rw [List.filter_eq_self.mpr (fun _ _ => rfl)] at h
  exact h
/-- the words of the refusal at a mark -/
def rdW (b : Array UInt8) (p x : Nat) : Str := if x = p then msg0 else msgB (oct b p : Int) ((x - p - 1 : Nat) : Int)
theorem rdW_ne (b : Array UInt8) (p x : Nat) : rdW b p x ≠ Str.ofString "" := by
  intro h
  have e : (rdW b p x).length = 0 := by rw [h]; decide +kernel
  unfold rdW at e
  split at e
  · exact absurd e (by decide +kernel)
  · simp only [Str.length_append] at e
    have a1 : (Str.ofString "expected ").length = 9 := by decide +kernel
    omega
theorem off_push {e : Addr × Obj} {R : List (Addr × Obj)} {P : Addr} (h : @Ne Nat e.1 P) (hr : OwnOff R [P]) : OwnOff (e :: R) [P] := fun q hq c hc => by
  rcases List.mem_cons.mp hq with rfl | hq
  · rw [List.mem_singleton.mp hc]; exact h
  · exact hr q hq c hc
theorem pack7 {h₀ h : Heap} {L : Addr} {d a b c e f g i : Addr × Obj} {I T R : List (Addr × Obj)} (N : News h₀ L h (d :: (I ++ (T ++ ([a, b, c, e, f, g, i] ++ R))))) : ∃ R2, R2 = I ++ (T ++ R) ∧ News h₀ L h (d :: ([a, b, c, e, f, g, i] ++ R2)) := ⟨_, rfl, news_sub N fun q hq => by
  simp only [List.mem_cons, List.mem_append, List.not_mem_nil, or_false] at hq ⊢
  rcases hq with h | (h | h | h | h | h | h | h) | h | h | h <;> simp [h]⟩
theorem oct_cut {b : Array UInt8} {a n q : Nat} (h : q < n) : oct (cutB b a n) q = oct b (a + q) := by
  unfold oct cutB
  congr 1
  simp only [List.getD_eq_getElem?_getD, List.getElem?_take, List.getElem?_drop, if_pos h]
theorem cut_cut {b : Array UInt8} {a n q k : Nat} (h : q + k ≤ n) : cutB (cutB b a n) q k = cutB b (a + q) k := by
  unfold cutB
  congr 1
  simp only [List.drop_take, List.drop_drop, List.take_take]
  rw [Nat.min_eq_left (by omega)]
theorem sub_in {a b c d e f g i x : Addr × Obj} {I T R R2 : List (Addr × Obj)} (h : R2 = I ++ (T ++ R)) : ∀ q ∈ d :: e :: f :: g :: i :: x :: (T ++ R), q ∈ a :: b :: c :: d :: e :: f :: g :: i :: x :: R2 := fun q hq => by
  subst h
  simp only [List.mem_cons, List.mem_append] at hq ⊢
  rcases hq with h | h | h | h | h | h | h | h <;> simp [h]
theorem name_rest {h₀ h : Heap} {L : Addr} {T R : List (Addr × Obj)} (N : News h₀ L h (T ++ R)) : ∃ R3, News h₀ L h R3 ∧ ∀ e ∈ T, e ∈ R3 := ⟨_, N, fun _ he => List.mem_append_left _ he⟩
theorem pack3 {h₀ h : Heap} {L Dz Dt Di De Do C3 C2 C1 : Addr} {zo to io eo oo oC oE oO tb : Obj} {x1 x2 x3 x4 : Addr × Obj} (N : News h₀ L h [(Dz, zo), x1, x2, x3, x4, (Dt, to), (Di, io), (De, eo), (Do, oo), (C3, oC), (C2, oE), (C1, oO), (51, tb)]) (hz : NoFld zo) (hi : NoFld io) (he : NoFld eo) :
    ∃ Dt' R0, Dt' = Dt ∧ R0 = [(Dz, zo), (Di, io), (De, eo)] ∧ News h₀ L h ((Dt', to) :: (C3, oC) :: (C2, oE) :: (C1, oO) :: (Do, oo) :: ([(51, tb)] ++ R0)) ∧ NoFldL R0 ∧ (Dz, zo) ∈ R0 ∧ (Di, io) ∈ R0 ∧ (De, eo) ∈ R0 := by
  refine ⟨Dt, [(Dz, zo), (Di, io), (De, eo)], rfl, rfl, ?_, noFldL_cons hz (noFldL_cons hi (noFldL_cons he noFldL_nil)), .head _, .tail _ (.head _), .tail _ (.tail _ (.head _))⟩
  refine news_sub N fun q hq => ?_
  simp only [List.cons_append, List.nil_append, List.mem_cons, List.not_mem_nil, or_false] at hq ⊢
  rcases hq with h | h | h | h | h | h | h | h | h <;> simp [h]
theorem last_end {l : List Int} {x : Int} {i : Nat} {z : Int} (hi : i + 1 = (l ++ [x]).length) (hz : (l ++ [x])[i]? = some z) : z = x := by
  rw [List.length_append, List.length_singleton] at hi
  rw [List.getElem?_append_right (by omega), show i - l.length = 0 by omega] at hz
  simpa using hz.symm
theorem law05 : PySem.Challenge.rw_dm0232_05.Holds := hd05 (by
  k_go0
  have hMk := kstMark
  rename World => w
  rename List Int => ns
  rename Shared => s1
  have hns : ns.length ≤ 63 := by omega
  rename Frag.In _ (ghostOf _ _) => X0
  rename Top topProg _ _ _ _ (ghostOf _ _) => T0
  rename Below _ _ _ _ => B0
  repeat' (first | (k_unfold; (try dsimp only)) | ((fail_if_success (with_reducible show wpAny _ _ (binaryOp Operator.Add (Value.ref _) (Value.ref _)) _ _ _)); first | (k_end; wrow_close) | walk1 | (dsimp only; walk1) | (leave1; try dsimp only)))
  rename CarriedAll _ _ => hC
  replace hC := octF_carried hC
  have hCl := hC.length
  rw [List.length_map, List.length_take] at hCl
  repeat' (first | (k_unfold; (try dsimp only)) | ((fail_if_success (with_reducible show wpAny _ _ (exec (Stmt.For _ _ _ _ _) _) _ _ _)); first | (k_end; wrow_close) | walk1 | (dsimp only; walk1) | (leave1; try dsimp only)))
  refine wpAny_For ?_
  repeat' (first | (k_unfold; (try dsimp only)) | ((fail_if_success (with_reducible show wpAny _ _ (pyIter _) _ _ _)); first | (k_end; wrow_close) | walk1 | (dsimp only; walk1) | (leave1; try dsimp only)))
  rename IsRange _ _ _ _ _ _ _ _ => rg
  rename Fr _ _ _ _ => FF
  rename News _ _ _ _ => NN
  rename Heap.IsList (ghostOf _ _) _ _ => hsc
  rename IntsAre _ ([2, 7, 0, 1] ++ _) => hvs
  rename_i Do ov _ hDo _ oO dO _ De _ hDe _ oE _ _ dE _ _ _ _ _ _
  obtain ⟨sc, hsce, -⟩ := sc_name hsc
  subst hsce
  replace hvs : IntsAre ov (octsX ns) := hvs
  have hIn := octsX_in ns
  have hvl := hvs.length
  have hol := octsX_len ns
  obtain ⟨ks, hks⟩ : ∃ ks, ks = octsX ns := ⟨_, rfl⟩
  obtain ⟨b, hb⟩ : ∃ b, b = byteArr ks := ⟨_, rfl⟩
  rw [← hks] at hvs hIn hvl hol
  have hkb : KBw.bInts b = ks := by rw [hb]; exact bInts_byteArr hIn
  have hbs : b.size = ks.length := by rw [hb, byteArr_size]
  have hrg : (((1 + 1 + 1 + 1 + (List.map octF (List.take 40 ns)).length : Nat)) : Int) = ((b.size : Nat) : Int) := by
    rw [hbs, hks]; unfold octsX; rw [List.length_append]; rfl
  rw [hrg] at rg
  clear hC hCl hrg
  k_dflt (refine iterG_range (n := b.size) (fun i mm nx => ∃ ev je es p oC vC, nx = [(De, listOf ev.toArray je), (Do, listOf ov.toArray 0), (s1.heap.objs.size + 1 + 1 + 1, oC), (s1.heap.objs.size + 1 + 1, oE), (s1.heap.objs.size + 1, oO), (51, tabObj #[])] ∧ oC.data = .cell vC ∧ IntsAre ev es ∧ Mk b es p ∧ (i ≤ p ∨ b.size < p + 1 + oct b p) ∧ mm (Str.ofString "script") = some (.ref sc)) rfl rg (small_one (by omega) (by omega) (by omega) (by omega)) (by rw [rangeSize_nat]; omega) FF (cells_pack NN) ⟨[_], 0, [0], 0, _, _, rfl, by assumption, .cons _ _ .nil, .nil, .inl (Nat.le_refl _), rfl⟩ (by passes_own) ?turn2 ?done2)
  case turn2 =>
    rintro I i t9 m9 nx9 h9 tk9 oI hoT hi9 hne ⟨ev, je, es, p, oC, vC, rfl, dC, hev, hmk, hip, hscr⟩ F9 N9
    simp only [List.forall_mem_cons] at hne
    obtain ⟨n1, n2, n3, n4, n5, n6, -⟩ := hne
    have F10 := fr_names F9 [(Str.ofString "script", .ref sc)] (by intro q9 hq9; simp only [List.mem_cons, List.not_mem_nil, or_false] at hq9; rcases hq9 with rfl <;> assumption)
    clear F9 FF NN rg hscr
    obtain ⟨⟨pre, rfl⟩, hpb, hpl⟩ := hmk.last
    obtain ⟨ew, te, rfl, hew⟩ := ints_last hev
    have hewl := hew.length
    rw [List.length_append, List.length_singleton] at hpl
    have hoi : ks.getD (0 + (i : Int) * 1).toNat 0 = (oct b i : Int) := by rw [show (0 + (i : Int) * 1).toNat = i by omega, ← hkb, ints_getD]
    have hcs : (i = p ∧ p + 1 + oct b p ≤ b.size) ∨ (i = p ∧ b.size < p + 1 + oct b p) ∨ i ≠ p := by omega
    rcases hcs with ⟨c1, c2⟩ | ⟨c1, c2⟩ | c1
    · subst c1
      k_steps
      rename Fr _ _ _ _ => FF
      rename News _ _ _ _ => NN
      simp only [List.push_toArray] at NN
      refine EndY.intro FF NN ⟨_, _, _, _, _, _, rfl, dC, ints_snoc hev _ _, hmk.snoc hi9 c2 (by omega), .inl (by omega), rfl⟩ (fun q hq => List.mem_cons_of_mem _ hq) (.head _) (by simp only [List.forall_mem_cons]; exact ⟨n1, n2, n3, n4, n5, n6, fun _ h => nomatch h⟩)
    · subst c1
      k_steps
      rename Fr _ _ _ _ => FF
      rename News _ _ _ _ => NN
      exact EndY.intro FF NN ⟨_, _, _, _, _, _, rfl, dC, hev, hmk, .inr c2, rfl⟩ (fun q hq => List.mem_cons_of_mem _ hq) (.head _) (by simp only [List.forall_mem_cons]; exact ⟨n1, n2, n3, n4, n5, n6, fun _ h => nomatch h⟩)
    · k_steps
      rename Fr _ _ _ _ => FF
      rename News _ _ _ _ => NN
      exact EndY.intro FF NN ⟨_, _, _, _, _, _, rfl, dC, hev, hmk, by omega, rfl⟩ (fun q hq => List.mem_cons_of_mem _ hq) (.head _) (by simp only [List.forall_mem_cons]; exact ⟨n1, n2, n3, n4, n5, n6, fun _ h => nomatch h⟩)
  case done2 =>
    rintro m9 nx9 h9 tk9 ⟨ev, je, es, p, oC, vC, rfl, dC, hev, hmk, hip, hscr⟩ F9 N9
    have F10 := fr_names F9 [(Str.ofString "script", .ref sc)] (by intro q9 hq9; simp only [List.mem_cons, List.not_mem_nil, or_false] at hq9; rcases hq9 with rfl <;> assumption)
    clear F9 FF NN rg hscr
    have hel := hev.length
    obtain ⟨-, hpb, hepl⟩ := hmk.last
    have he1 := hmk.is.2.1
    dsimp only
    repeat' (first | (k_unfold; (try dsimp only)) | ((fail_if_success (with_reducible show wpAny _ _ (exec (Stmt.Assign _ (Expr.ListComp _ _ _ _) _) _) _ _ _)); first | (k_end; wrow_close) | walk1 | (dsimp only; walk1) | (leave1; try dsimp only)))
    k_dflt (refine LCg.Assign_ListComp_U (F₀ := by k_asm) (by rfl) (by with_unfolding_all rfl) (by with_unfolding_all rfl) (by decide) (by rfl) (by decide) (by rfl) (by rfl) (by rfl) ?_)
    repeat' (first | (k_unfold; (try dsimp only)) | ((fail_if_success (with_reducible show LCg.CompSrc _ _ _ _ _ _ _ _ _ _ _ _ _ _)); first | (k_end; wrow_close) | walk1 | (dsimp only; walk1) | (leave1; try dsimp only)))
    rename IsRange _ _ _ _ _ _ _ _ => rg
    k_dflt (refine LCg.CompSrc.range (n := es.length - 1) (by rfl) (by k_asm) (by k_asm) rg ?sm ?rs ?sz ?_)
    case sm => exact small_one (by omega) (by omega) (by omega) (by omega)
    case rs => rw [rangeSize_one]; omega
    case sz => simp only [sizeLine_eq]; omega
    intro g9
    refine restU1 (fun i ys => BytesAre ys ((List.range i).map (itm b es))) trivial .nil ?fin0 ?turn0
    case turn0 =>
      rintro i v ys I oI C oC' D m₂ h3 tk3 E' hi ⟨tv, rfl⟩ hJ hC hx F3 N3 off3 ne3
      clear rg
      have hg1 : es.getD (0 + (i : Int)).toNat 0 = (nth b i : Int) := by rw [show (0 + (i : Int)).toNat = i by omega]; exact mk_get hmk (by omega)
      have hg2 : es.getD (0 + (i : Int) + 1).toNat 0 = (nth b (i + 1) : Int) := by rw [show (0 + (i : Int) + 1).toNat = i + 1 by omega]; exact mk_get hmk (by omega)
      have hg3 : nth b (i + 1) = nth b i + 1 + oct b (nth b i) := rfl
      have hg4 := hmk.is.2.2.2 i (by omega)
      have hitm := mk_itm hmk (k := i) (by omega)
      obtain ⟨pp, hpp⟩ : ∃ pp, pp = nth b i := ⟨_, rfl⟩
      obtain ⟨qq, hqq⟩ : ∃ qq, qq = nth b (i + 1) := ⟨_, rfl⟩
      rw [← hpp] at hg1 hg3 hitm
      rw [← hqq] at hg2 hg3 hg4
      repeat' (first | (k_unfold; (try dsimp only)) | ((fail_if_success (with_reducible show wpAny _ _ (call (Value.type "bytes") _) _ _ _)); first | (k_end; wrow_close) | walk1 | (dsimp only; walk1) | (leave1; try dsimp only)))
      rename IntsAre _ (List.take _ (List.drop _ ks)) => hit
      obtain ⟨c, hc⟩ : ∃ c, c = cutB b (pp + 1) (oct b pp) := ⟨_, rfl⟩
      have hsl : List.take (min (es.getD (0 + (i : Int) + 1).toNat 0).toNat ks.length - (es.getD (0 + (i : Int)).toNat 0 + 1).toNat) (List.drop (es.getD (0 + (i : Int)).toNat 0 + 1).toNat ks) = KBw.bInts c := by
        rw [hg1, hg2, ← hkb, slice_bInts, hc]; congr 2 <;> (try rw [KBw.ints_length]) <;> omega
      rw [hsl] at hit
      have hcz : c.size ≤ 256 := by rw [hc, cutB_size]; have := oct_lt b pp; omega
      k_steps
      rename Fr _ _ _ _ => FF
      rename News _ _ _ _ => NN
      exact CEnd1.intro FF NN (fun p hp => List.mem_cons_of_mem _ hp) (by rw [List.range_succ, List.map_append, List.map_singleton, hitm, ← hc]; exact hJ.snoc _ _)
    case fin0 =>
      intro iv hiv
      clear rg
      have hivl := hiv.length
      rw [List.length_map, List.length_range] at hivl
      (rename Fr _ _ _ _ => FF; clear FF)
      (rename News _ _ _ _ => NN; clear NN)
      unfold LCg.FinA
      intro Di h4 tk4 F4 N4 o4
      simp only [LCg.Off1] at o4
      obtain ⟨d1, d2, d3, d4, d5, d6, -⟩ := o4
      repeat' (first | (k_unfold; (try dsimp only)) | ((fail_if_success (with_reducible show wpAny _ _ (exec (Stmt.For _ _ _ _ _) _) _ _ _)); first | (k_end; wrow_close) | walk1 | (dsimp only; walk1) | (leave1; try dsimp only)))
      refine wpAny_For ?_
      repeat' (first | (k_unfold; (try dsimp only)) | ((fail_if_success (with_reducible show wpAny _ _ (binaryOp Operator.Add (Value.ref _) (Value.ref _)) _ _ _)); first | (k_end; wrow_close) | walk1 | (dsimp only; walk1) | (leave1; try dsimp only)))
      rename CarriedAll _ _ => hC
      replace hC := sizes_carried hC
      have hCl := hC.length
      rw [List.length_map, List.length_take] at hCl
      repeat' (first | (k_unfold; (try dsimp only)) | ((fail_if_success (with_reducible show wpAny _ _ (pyIter _) _ _ _)); first | (k_end; wrow_close) | walk1 | (dsimp only; walk1) | (leave1; try dsimp only)))
      rename Fr _ _ _ _ => FF
      rename News _ _ _ _ => NN
      rename IntsAre _ (_ ++ _ ++ [_]) => hzs
      rename_i Dz zv _ lDz
      obtain ⟨zs, hzse⟩ : ∃ zs, zs = [1, 0, 2] ++ List.map (fun a => a.fmod 4) (List.take 40 ns) ++ [(ov.length : Int)] := ⟨_, rfl⟩
      rw [← hzse] at hzs
      have hz0 : ∀ z ∈ zs, 0 ≤ z := by
        intro z hz; rw [hzse] at hz
        simp only [List.mem_append, List.mem_cons, List.not_mem_nil, or_false, List.mem_map] at hz
        rcases hz with (h | ⟨y, _, rfl⟩) | h
        · omega
        · exact fmod_lo _ (by decide)
        · omega
      have hzl : zs.length = 4 + min 40 ns.length := by rw [hzse]; simp; omega
      have hzlast : ∀ i z, i + 1 = zs.length → zs[i]? = some z → z = (ov.length : Int) := by
        intro i z hi hz
        rw [hzse] at hi hz
        exact last_end hi hz
      have hzvl := hzs.length
      obtain ⟨Dt, R0, hDte, hR0e, N0, hR0, mZ, mI, mE⟩ := pack3 NN (noFld_seq rfl) (noFld_seq rfl) (noFld_seq rfl)
      subst hDte
      clear NN hzse hC hCl
      have o51 : OwnOff R0 [51] := offR (ps := #[]) N0 (by simp) (fun e he => by simp [he]) hR0
      have hstk : Stuck b p := fun h => by omega
      have oR0 : OwnOff R0 [Dt, s1.heap.objs.size + 1 + 1 + 1] := by
        intro q hq c hc
        rw [hR0e] at hq
        simp only [List.mem_cons, List.not_mem_nil, or_false] at hq hc
        rcases hq with rfl | rfl | rfl <;> rcases hc with rfl | rfl <;> (show (_ : Nat) ≠ _) <;> omega
      clear hR0e
      k_dflt (refine iterG_list (vs := zv) (jv := 0) (fun i mm nx => ∃ T tv jt oC c come t1, nx = (Dt, listOf tv.toArray jt) :: (s1.heap.objs.size + 1 + 1 + 1, oC) :: (s1.heap.objs.size + 1 + 1, oE) :: (s1.heap.objs.size + 1, oO) :: (Do, listOf ov.toArray 0) :: (T ++ R0) ∧ Tab 51 (rawInt 22) (rawInt 4) (Str.ofString "_law_stream.<locals>._law_read") T ∧ oC.data = .cell (some (.int ((come : Nat) : Int) t1)) ∧ BytesAre tv ((List.range c).map (itm b es)) ∧ c < es.length ∧ nth b c ≤ come ∧ come ≤ b.size ∧ (i = zs.length → come = b.size ∧ come < nth b (c + 1) ∧ ∃ t2, mm (Str.ofString "words") = some (.str (rdW b (nth b c) come) t2)) ∧ mm (Str.ofString "script") = some (.ref sc) ∧ mm (Str.ofString "items") = some (.ref Di) ∧ mm (Str.ofString "told") = some (.ref Dt) ∧ (∃ t3, mm (Str.ofString "mark") = some (.int ((nth b c : Nat) : Int) t3))) rfl (by rintro i m nx ⟨T, tv, jt, oC, c, come, t1, rfl, _⟩; exact .tail _ (.tail _ (.tail _ (.tail _ (.tail _ (List.mem_append_right _ mZ)))))) FF N0 ⟨[(51, tabObj #[])], [], 0, _, 0, 0, _, rfl, .none, by assumption, .nil, by omega, Nat.le_refl _, Nat.zero_le _, fun h => by omega, rfl, rfl, rfl, ⟨_, rfl⟩⟩ (by passes_own) ?turn3 ?done3)
      case done3 =>
        clear FF N0
        rintro m9 nx9 h9 tk9 ⟨T, tv, jt, oC, c, come, t1, rfl, hT, dC, htv, hce, hcc, hcb, hlast, hscr, hitn, htn, ⟨t3, hmn⟩⟩ F9 N9
        obtain ⟨hcs, hcn, t4, hwn⟩ := hlast hzvl
        subst hcs
        clear hlast
        obtain ⟨mk, hmk0⟩ : ∃ mk, mk = nth b c := ⟨_, rfl⟩
        have hnx : nth b (c + 1) = mk + 1 + oct b mk := by rw [nth, ← hmk0]
        rw [← hmk0] at hcc hmn hwn
        obtain ⟨R', hR'⟩ : ∃ R', R' = T ++ R0 := ⟨_, rfl⟩
        rw [← hR'] at N9
        obtain ⟨ps, mps⟩ := hT.mem
        have mps' : (51, tabObj ps) ∈ R' := by rw [hR']; exact List.mem_append_left _ mps
        by_cases h0 : mk = b.size
        · rw [← h0] at dC
          have F10 := fr_names F9 [(Str.ofString "script", .ref sc), (Str.ofString "items", .ref Di), (Str.ofString "told", .ref Dt), (Str.ofString "mark", .int ((mk : Nat) : Int) t3)] (by intro q9 hq9; simp only [List.mem_cons, List.not_mem_nil, or_false] at hq9; rcases hq9 with rfl | rfl | rfl | rfl <;> assumption)
          clear F9 hscr hitn htn hmn hwn
          dsimp only
          k_steps
        · have hwe : rdW b mk b.size = msgB ((oct b mk : Nat) : Int) ((b.size - mk - 1 : Nat) : Int) := by unfold rdW; rw [if_neg (by omega)]
          rw [hwe] at hwn
          have F10 := fr_names F9 [(Str.ofString "script", .ref sc), (Str.ofString "items", .ref Di), (Str.ofString "told", .ref Dt), (Str.ofString "mark", .int ((mk : Nat) : Int) t3), (Str.ofString "words", .str (msgB ((oct b mk : Nat) : Int) ((b.size - mk - 1 : Nat) : Int)) t4)] (by intro q9 hq9; simp only [List.mem_cons, List.not_mem_nil, or_false] at hq9; rcases hq9 with rfl | rfl | rfl | rfl | rfl <;> assumption)
          have hce9 : (mk : Int) ≠ (b.size : Int) := by omega
          clear F9 hscr hitn htn hmn hwn
          dsimp only
          repeat' (first | (k_unfold; (try dsimp only)) | ((fail_if_success (with_reducible show wpAny _ _ (call (Value.ref 75) _) _ _ _)); first | (k_end; wrow_close) | walk1 | (dsimp only; walk1) | (leave1; try dsimp only)))
          rename Fr _ _ _ _ => F6
          rename News _ _ _ _ => N6
          rename IntsAre _ (List.take _ (List.drop _ ks)) => hit
          obtain ⟨cw, hcw⟩ : ∃ cw, cw = cutB b mk (b.size - mk) := ⟨_, rfl⟩
          have hsl : List.take (min ((b.size : Int)).toNat ks.length - ((mk : Int)).toNat) (List.drop ((mk : Int)).toNat ks) = KBw.bInts cw := by
            rw [Int.toNat_natCast, Int.toNat_natCast, ← hkb, slice_bInts, hcw]; congr 2; rw [KBw.ints_length]; omega
          rw [hsl] at hit
          have hcz : cw.size = b.size - mk := by rw [hcw, cutB_size]; omega
          have hgd : (KBw.bInts cw).getD 0 0 = ((oct b mk : Nat) : Int) := by rw [ints_getD, hcw, oct_cut (by omega), Nat.add_zero]
          k_dflt (refine lack_ct w (T := T) (n := oct b mk) (k := b.size - mk - 1) (ci := KBw.bInts cw) B0 F6 X0 (mid_T (pre := [_, _, _, _, _, _]) N6 hR') T0 ?XB ?TB codeHd hT ?off rfl ?room ?units (.head _) hit (bInts_in cw) ?hcl hgd ?hkn (oct_lt b mk) ?ok)
          case XB => assumption
          case TB => assumption
          case off =>
            refine off_push ?_ (off_push ?_ (off_push ?_ (off_push ?_ (off_push ?_ (off_push ?_ o51)))))
            all_goals (show (_ : Nat) ≠ _)
            all_goals omega
          case room => ktr_room
          case units => ktr_units
          case hcl => rw [KBw.ints_length]; omega
          case hkn => omega
          case ok =>
            intro h7 tk7 T7 hT7 F7 N7
            obtain ⟨ps7, mp7⟩ := hT7.mem
            obtain ⟨R3, N8, hR3⟩ := name_rest N7
            have mp7' : (51, tabObj ps7) ∈ R3 := hR3 _ mp7
            clear N7 N6 F6
            k_steps
      case turn3 =>
        rintro I i v m9 nx9 h9 tk9 oI hoT hi9 hv hne ⟨T, tv, jt, oC, c, come, t1, rfl, hT, dC, htv, hce, hcc, hcb, -, hscr, hitn, htn, ⟨t3, hmn⟩⟩ F9 N9
        simp only [List.forall_mem_cons] at hne
        obtain ⟨n1, n2, n3, n4, n5, nR⟩ := hne
        obtain ⟨z, tz, rfl, hzi, -⟩ := ints_at hzs (by simpa using hv)
        have hzn := hz0 z (List.mem_of_getElem? hzi)
        have F10 := fr_names F9 [(Str.ofString "script", .ref sc), (Str.ofString "items", .ref Di), (Str.ofString "told", .ref Dt), (Str.ofString "mark", .int ((nth b c : Nat) : Int) t3)] (by intro q9 hq9; simp only [List.mem_cons, List.not_mem_nil, or_false] at hq9; rcases hq9 with rfl | rfl | rfl | rfl <;> assumption)
        obtain ⟨R', hR'⟩ : ∃ R', R' = T ++ R0 := ⟨_, rfl⟩
        rw [← hR'] at N9 nR
        have hsT : ∀ e ∈ T, e ∈ R' := fun e he => by rw [hR']; exact List.mem_append_left _ he
        have oR' : OwnOff R' [Dt, s1.heap.objs.size + 1 + 1 + 1] := by
          rw [hR']
          refine off_app (off_cons ?_ ?_) oR0
          · exact tab_offK N9 hT (fun e he => by have := hsT e he; simp [this]) (.tail _ (.head _)) (noFld_seq rfl)
          · exact tab_offK N9 hT (fun e he => by have := hsT e he; simp [this]) (.tail _ (.tail _ (.head _))) (noFld_cell dC)
        have oI' : OwnOff R' [I] := fun q hq c hc => by rw [List.mem_singleton.mp hc]; exact nR q hq
        have htvl := htv.length
        rw [List.length_map, List.length_range] at htvl
        clear F9 FF N0 hscr hitn htn hmn
        repeat' (first | (k_unfold; (try dsimp only)) | ((fail_if_success (with_reducible show wpAny _ _ (exec (Stmt.For _ _ _ _ _) _) _ _ _)); first | (k_end; wrow_close) | walk1 | (dsimp only; walk1) | (leave1; try dsimp only)))
        rename _ = Data.cell (some (Value.int (ite _ _ _) _)) => dC2
        rename Obj => oC2
        obtain ⟨cm, hcm⟩ : ∃ cm : Nat, (if (come : Int) + z < (ov.length : Int) then (come : Int) + z else (ov.length : Int)) = (cm : Int) := ⟨min (come + z.toNat) ov.length, by split <;> omega⟩
        have hcm1 : come ≤ cm ∧ cm ≤ b.size := by split at hcm <;> omega
        have hcml : i + 1 = zs.length → cm = b.size := fun h => by have := hzlast i z h hzi; split at hcm <;> omega
        rw [hcm] at dC2
        clear hcm dC
        refine wpAny_For ?_
        repeat' (first | (k_unfold; (try dsimp only)) | ((fail_if_success (with_reducible show wpAny _ _ (pyIter _) _ _ _)); first | (k_end; wrow_close) | walk1 | (dsimp only; walk1) | (leave1; try dsimp only)))
        rename IsRange _ _ _ _ _ _ _ _ => rg
        rename Fr _ _ _ _ => FF
        rename News _ _ _ _ => NN
        rw [hR'] at NN
        have nRT : ∀ q ∈ T, @Ne Nat q.1 I := fun q hq => nR q (hsT q hq)
        have nR0 : ∀ q ∈ R0, @Ne Nat q.1 I := fun q hq => nR q (by rw [hR']; exact List.mem_append_right _ hq)
        clear oR' oI' hsT nR hR'
        k_dflt (refine iterG_range (n := cm + 1) (fun k mm nx => ∃ T tv jt c ww, nx = (I, oI) :: (Dt, listOf tv.toArray jt) :: (s1.heap.objs.size + 1 + 1 + 1, oC2) :: (s1.heap.objs.size + 1 + 1, oE) :: (s1.heap.objs.size + 1, oO) :: (Do, listOf ov.toArray 0) :: (T ++ R0) ∧ Tab 51 (rawInt 22) (rawInt 4) (Str.ofString "_law_stream.<locals>._law_read") T ∧ (∀ q ∈ T, @Ne Nat q.1 I) ∧ BytesAre tv ((List.range c).map (itm b es)) ∧ c < es.length ∧ nth b c ≤ cm ∧ ((ww = Str.ofString "" ∧ k ≤ nth b c) ∨ (ww = rdW b (nth b c) cm ∧ cm < nth b (c + 1))) ∧ mm (Str.ofString "script") = some (.ref sc) ∧ mm (Str.ofString "items") = some (.ref Di) ∧ mm (Str.ofString "told") = some (.ref Dt) ∧ (∃ t3, mm (Str.ofString "mark") = some (.int ((nth b c : Nat) : Int) t3)) ∧ (∃ t4, mm (Str.ofString "words") = some (.str ww t4))) rfl rg (small_one (by omega) (by omega) (by omega) (by omega)) (by rw [rangeSize_nat]; omega) FF NN ⟨T, tv, jt, c, _, rfl, hT, nRT, htv, hce, by omega, .inl ⟨rfl, Nat.zero_le _⟩, rfl, rfl, rfl, ⟨_, rfl⟩, ⟨_, rfl⟩⟩ (by passes_own) ?turn4 ?done4)
        case done4 =>
          clear FF NN rg hT htv hce hcc nRT htvl
          rintro m9 nx9 h9 tk9 ⟨T, tv, jt, c, ww, rfl, hT, nT, htv, hce, hcc, hww, hscr, hitn, htn, ⟨t3, hmn⟩, ⟨t4, hwn⟩⟩ F9 N9
          have hw9 : ww = rdW b (nth b c) cm ∧ cm < nth b (c + 1) := by
            rcases hww with ⟨_, h⟩ | h
            · omega
            · exact h
          obtain ⟨hwe, hcn⟩ := hw9
          clear hww
          have F10 := fr_names F9 [(Str.ofString "script", .ref sc), (Str.ofString "items", .ref Di), (Str.ofString "told", .ref Dt), (Str.ofString "mark", .int ((nth b c : Nat) : Int) t3), (Str.ofString "words", .str ww t4)] (by intro q9 hq9; simp only [List.mem_cons, List.not_mem_nil, or_false] at hq9; rcases hq9 with rfl | rfl | rfl | rfl | rfl <;> assumption)
          obtain ⟨R', hR'⟩ : ∃ R', R' = T ++ R0 := ⟨_, rfl⟩
          rw [← hR'] at N9
          have mE' : (De, listOf ev.toArray je) ∈ R' := by rw [hR']; exact List.mem_append_right _ mE
          have mI' : (Di, LCg.lst iv) ∈ R' := by rw [hR']; exact List.mem_append_right _ mI
          have htvl := htv.length
          rw [List.length_map, List.length_range] at htvl
          clear F9 hscr hitn htn hmn hwn
          obtain ⟨mk, hmk0⟩ : ∃ mk, mk = nth b c := ⟨_, rfl⟩
          rw [← hmk0] at F10 hcc hwe
          dsimp only
          repeat' (first | (k_unfold; (try dsimp only)) | ((fail_if_success (with_reducible show wpAny _ _ (exec (Stmt.Assign _ (Expr.ListComp _ _ _ _) _) _) _ _ _)); first | (k_end; wrow_close) | walk1 | (dsimp only; walk1) | (leave1; try dsimp only)))
          k_dflt (refine LCt.Assign_ListComp_T (F₀ := by k_asm) (by rfl) (by with_unfolding_all rfl) (by with_unfolding_all rfl) (by decide) (by rfl) (by decide) (by rfl) (by rfl) (by rfl) ?_)
          repeat' (first | (k_unfold; (try dsimp only)) | ((fail_if_success (with_reducible show LCt.CompSrcT _ _ _ _ _ _ _ _ _ _ _ _ _ _ _)); first | (k_end; wrow_close) | walk1 | (dsimp only; walk1) | (leave1; try dsimp only)))
          k_dflt (refine LCt.CompSrcT.ledger (by rfl) (by k_asm) (by k_asm) (by lcg_src) ?sz ?_)
          case sz => simp only [sizeLine_eq, List.size_toArray]; omega
          intro g9
          refine restT1 (fun i ys => IntsAre ys ((List.take i es).filter (fun k => decide (k ≤ (cm : Int))))) ?hS .nil ?fin6 ?turn6
          case hS => exact .inr ⟨_, by lcg_src, rfl, _, rfl⟩
          case turn6 =>
            rintro i v ys I oI C oC D m₂ h3 tk3 E' hi hv hJ hC hx F3 N3 off3 ne3
            obtain ⟨k, t, rfl, hk, hk1⟩ := ints_at (show IntsAre ev es by assumption) hv
            k_steps
            · exact CEnd1.intro F3 N3 (fun p hp => hp) (filt_yes hJ hk1 (decide_eq_true (by assumption)))
            · exact CEnd1.intro F3 N3 (fun p hp => hp) (filt_no hJ hk1 (decide_eq_false (by assumption)))
          case fin6 =>
            intro ys hJ
            rw [List.size_toArray, hel, List.take_length, mk_filter hmk hce (by rw [← hmk0]; exact hcc) hcn, List.range_succ, List.map_append, List.map_singleton, ← hmk0] at hJ
            obtain ⟨yw, ty, rfl, hyw⟩ := ints_last hJ
            have hywl := hyw.length
            rw [List.length_map, List.length_range] at hywl
            (rename Fr _ _ _ _ => FF; clear FF)
            (rename News _ _ _ _ => NN; clear NN)
            unfold LCg.FinA
            intro Dw h4 tk4 F4 N4 o4
            clear o4
            have hyl : (yw ++ [Value.int (mk : Int) ty]).length = c + 1 := by rw [List.length_append, List.length_singleton, hywl]
            have hIT : BytesAre (List.take ((((yw ++ [Value.int (mk : Int) ty]).length : Nat) : Int) - 1).toNat iv) ((List.range c).map (itm b es)) := by
              have := bytes_take hiv c
              rw [hyl, show (((c + 1 : Nat) : Int) - 1).toNat = c by omega]
              rw [← List.map_take, List.take_range, Nat.min_eq_left (by omega)] at this
              exact this
            repeat' (first | (k_unfold; (try dsimp only)) | ((fail_if_success (with_reducible show wpAny _ _ (subscriptTail _ _ (Value.ref _) (Value.ref _)) _ _ _)); first | (k_end; wrow_close) | walk1 | (dsimp only; walk1) | (leave1; try dsimp only)))
            refine slice_upto_any F4 N4 (by lcg_src) (by omega) (by omega) ?_ (by with_unfolding_all rfl) (by kmk_pure)
            intro Dq h5 F5 N5 l5
            clear F4 N4 l5
            have hbt : BytesAre tv ((List.range c).map (itm b es)) := by assumption
            by_cases hcm0 : cm = mk
            · have hwe2 : ww = msg0 := by rw [hwe]; unfold rdW; rw [if_pos hcm0]
              subst hwe2
              have hle9 : nth b c ≤ cm := by omega
              have hle8 := hcm1.2
              have hce9 : (mk : Int) = (cm : Int) := by omega
              rw [← hce9] at dC2
              k_steps
              rename Fr _ _ _ _ => FF
              rename News _ _ _ _ => NN
              have hsub : ∀ q ∈ (Dt, listOf tv.toArray jt) :: (s1.heap.objs.size + 1 + 1 + 1, oC2) :: (s1.heap.objs.size + 1 + 1, oE) :: (s1.heap.objs.size + 1, oO) :: (Do, listOf ov.toArray 0) :: (T ++ R0), q ∈ (Dq, listOf (List.take ((((yw ++ [Value.int (mk : Int) ty]).length : Nat) : Int) - 1).toNat iv).toArray 0) :: (Dw, LCg.lst (yw ++ [Value.int (mk : Int) ty])) :: (I, oI) :: (Dt, listOf tv.toArray jt) :: (s1.heap.objs.size + 1 + 1 + 1, oC2) :: (s1.heap.objs.size + 1 + 1, oE) :: (s1.heap.objs.size + 1, oO) :: (Do, listOf ov.toArray 0) :: R' := fun q hq => by
                rw [hR']; exact List.mem_cons_of_mem _ (List.mem_cons_of_mem _ (List.mem_cons_of_mem _ hq))
              have hne9 : ∀ q ∈ (Dt, listOf tv.toArray jt) :: (s1.heap.objs.size + 1 + 1 + 1, oC2) :: (s1.heap.objs.size + 1 + 1, oE) :: (s1.heap.objs.size + 1, oO) :: (Do, listOf ov.toArray 0) :: (T ++ R0), @Ne Nat q.1 I := by
                simp only [List.forall_mem_cons]
                refine ⟨n1, n2, n3, n4, n5, fun q hq => ?_⟩
                rcases List.mem_append.mp hq with hq | hq
                · exact nT q hq
                · exact nR0 q hq
              refine EndY.intro (nx := (Dt, listOf tv.toArray jt) :: (s1.heap.objs.size + 1 + 1 + 1, oC2) :: (s1.heap.objs.size + 1 + 1, oE) :: (s1.heap.objs.size + 1, oO) :: (Do, listOf ov.toArray 0) :: (T ++ R0)) FF NN ⟨T, tv, jt, oC2, c, cm, _, rfl, hT, (by rw [hce9] at dC2; exact dC2), hbt, hce, hle9, hle8, fun h => ⟨hcml h, hcn, ⟨t4, by rw [← hmk0, ← hwe]; rfl⟩⟩, rfl, rfl, rfl, ⟨t3, by rw [← hmk0]; rfl⟩⟩ hsub (.tail _ (.tail _ (.head _))) hne9
            · have hwe2 : ww = msgB (ks.getD ((mk : Int)).toNat 0) ((cm : Int) - (mk : Int) - 1) := by
                rw [hwe]; unfold rdW; rw [if_neg hcm0, Int.toNat_natCast, ← hkb, ints_getD, show ((cm - mk - 1 : Nat) : Int) = (cm : Int) - (mk : Int) - 1 by omega]
              subst hwe2
              have hle9 : nth b c ≤ cm := by omega
              have hle8 := hcm1.2
              have hce9 : (mk : Int) ≠ (cm : Int) := by omega
              have hg0 : 0 ≤ ks.getD ((mk : Int)).toNat 0 ∧ ks.getD ((mk : Int)).toNat 0 < 256 := by rw [Int.toNat_natCast, ← hkb, ints_getD]; have := oct_lt b mk; omega
              k_steps
              rename Fr _ _ _ _ => FF
              rename News _ _ _ _ => NN
              have hsub : ∀ q ∈ (Dt, listOf tv.toArray jt) :: (s1.heap.objs.size + 1 + 1 + 1, oC2) :: (s1.heap.objs.size + 1 + 1, oE) :: (s1.heap.objs.size + 1, oO) :: (Do, listOf ov.toArray 0) :: (T ++ R0), q ∈ (Dq, listOf (List.take ((((yw ++ [Value.int (mk : Int) ty]).length : Nat) : Int) - 1).toNat iv).toArray 0) :: (Dw, LCg.lst (yw ++ [Value.int (mk : Int) ty])) :: (I, oI) :: (Dt, listOf tv.toArray jt) :: (s1.heap.objs.size + 1 + 1 + 1, oC2) :: (s1.heap.objs.size + 1 + 1, oE) :: (s1.heap.objs.size + 1, oO) :: (Do, listOf ov.toArray 0) :: R' := fun q hq => by
                rw [hR']; exact List.mem_cons_of_mem _ (List.mem_cons_of_mem _ (List.mem_cons_of_mem _ hq))
              have hne9 : ∀ q ∈ (Dt, listOf tv.toArray jt) :: (s1.heap.objs.size + 1 + 1 + 1, oC2) :: (s1.heap.objs.size + 1 + 1, oE) :: (s1.heap.objs.size + 1, oO) :: (Do, listOf ov.toArray 0) :: (T ++ R0), @Ne Nat q.1 I := by
                simp only [List.forall_mem_cons]
                refine ⟨n1, n2, n3, n4, n5, fun q hq => ?_⟩
                rcases List.mem_append.mp hq with hq | hq
                · exact nT q hq
                · exact nR0 q hq
              refine EndY.intro (nx := (Dt, listOf tv.toArray jt) :: (s1.heap.objs.size + 1 + 1 + 1, oC2) :: (s1.heap.objs.size + 1 + 1, oE) :: (s1.heap.objs.size + 1, oO) :: (Do, listOf ov.toArray 0) :: (T ++ R0)) FF NN ⟨T, tv, jt, oC2, c, cm, _, rfl, hT, dC2, hbt, hce, hle9, hle8, fun h => ⟨hcml h, hcn, ⟨t4, by rw [← hmk0, ← hwe]; rfl⟩⟩, rfl, rfl, rfl, ⟨t3, by rw [← hmk0]; rfl⟩⟩ hsub (.tail _ (.tail _ (.head _))) hne9
        case turn4 =>
          clear FF NN rg hT htv hce hcc nRT htvl
          rintro I4 k4 t9 m9 nx9 h9 tk9 oI4 hoT4 hk4 hne ⟨T, tv, jt, c, ww, rfl, hT, nT, htv, hce, hcc, hww, hscr, hitn, htn, ⟨t3, hmn⟩, ⟨t4, hwn⟩⟩ F9 N9
          simp only [List.forall_mem_cons] at hne
          obtain ⟨q1, q2, q3, q4, q5, q6, qR⟩ := hne
          have F10 := fr_names F9 [(Str.ofString "script", .ref sc), (Str.ofString "items", .ref Di), (Str.ofString "told", .ref Dt), (Str.ofString "mark", .int ((nth b c : Nat) : Int) t3), (Str.ofString "words", .str ww t4)] (by intro q9 hq9; simp only [List.mem_cons, List.not_mem_nil, or_false] at hq9; rcases hq9 with rfl | rfl | rfl | rfl | rfl <;> assumption)
          obtain ⟨R', hR'⟩ : ∃ R', R' = T ++ R0 := ⟨_, rfl⟩
          rw [← hR'] at N9 qR
          have htvl := htv.length
          rw [List.length_map, List.length_range] at htvl
          clear F9 hscr hitn htn hmn hwn
          rcases hww with ⟨rfl, hkm⟩ | ⟨rfl, hcn⟩
          · skip
            obtain ⟨mk, hmk0⟩ : ∃ mk, mk = nth b c := ⟨_, rfl⟩
            rw [← hmk0] at F10 hcc hkm
            repeat' (first | (k_unfold; (try dsimp only)) | ((fail_if_success (with_reducible show wpAny _ _ (call (Value.type "bytes") _) _ _ _)); first | (k_end; wrow_close) | walk1 | (dsimp only; walk1) | (leave1; try dsimp only)))
            rename IntsAre _ (List.take _ (List.drop _ ks)) => hit
            obtain ⟨cw, hcw⟩ : ∃ cw, cw = cutB b mk (cm - mk) := ⟨_, rfl⟩
            have hsl : List.take (min ((cm : Int)).toNat ks.length - ((mk : Int)).toNat) (List.drop ((mk : Int)).toNat ks) = KBw.bInts cw := by
              rw [Int.toNat_natCast, Int.toNat_natCast, ← hkb, slice_bInts, hcw]; congr 2; rw [KBw.ints_length]; omega
            rw [hsl] at hit
            have hcz : cw.size = cm - mk := by rw [hcw, cutB_size]; omega
            clear hsl
            (rename (List.take _ (List.drop _ ks)).length = _ => hz1)
            (rename (List.take _ (List.drop _ ks)).length ≤ _ => hz2)
            clear hz1 hz2
            repeat' (first | (k_unfold; (try dsimp only)) | ((fail_if_success (with_reducible show wpAny _ _ (call (Value.ref 56) _) _ _ _)); first | (k_end; wrow_close) | walk1 | (dsimp only; walk1) | (leave1; try dsimp only)))
            rename Fr _ _ _ _ => F5
            rename News _ _ _ _ => N5
            have N6 := news_tail N5
            obtain ⟨ps, mps⟩ := hT.mem
            have mps' : (51, tabObj ps) ∈ R' := by rw [hR']; exact List.mem_append_left _ mps
            k_dflt (refine stream_ct w (T := T) B0 F5 X0 (mid_T (pre := [_, _, _, _, _, _, _]) N6 hR') T0 codeHd hT ?off rfl ?_ ?_)
            case off =>
              refine off_push (qR _ mps').symm (off_push (nT _ mps).symm (off_push ?_ (off_push ?_ (off_push ?_ (off_push ?_ (off_push ?_ o51))))))
              all_goals (show (_ : Nat) ≠ _)
              all_goals omega
            · ktr_room
            clear F5 N5 N6
            intro f dx r k1 k2 tp0 I' T2 h2 tk2 S hT2 o1 o2 o3 F6 N7
            obtain ⟨R2, hR2, N8⟩ := pack7 N7
            have o3r : OwnOff R0 [dx] := fun q hq => o3 q (List.mem_append_right _ hq)
            have oR2 : OwnOff R2 [dx] := by
              intro q hq c hc; rw [hR2] at hq; simp only [List.mem_append] at hq; rcases hq with h | h | h
              · exact S.off q h c hc
              · exact o2 q h c hc
              · exact o3r q h c hc
            have hm2 : Sub I' R2 := fun e he => by rw [hR2]; simp [he]
            have mi := hm2 _ S.inst
            have o3' : ∀ q ∈ [(I4, oI4), (I, oI), (Dt, listOf tv.toArray jt), (s1.heap.objs.size + 1 + 1 + 1, oC2), (s1.heap.objs.size + 1 + 1, oE), (s1.heap.objs.size + 1, oO), (Do, listOf ov.toArray 0)] ++ R2, q.1 ≠ dx := fun q hq => by
              rcases List.mem_append.mp hq with h | h
              · exact o3 q (List.mem_append_left _ h) dx (List.mem_singleton.mpr rfl)
              · exact oR2 q h dx (List.mem_singleton.mpr rfl)
            have hsT2 : ∀ e ∈ T2, e ∈ R2 := fun e he => by rw [hR2]; simp [he]
            have oR2t : OwnOff R2 [Dt] := by
              intro q hq c hc; rw [hR2] at hq; simp only [List.mem_append] at hq; rcases hq with h | h | h
              · exact kin_offS N8 S.kin (fun e he => by have := hm2 e he; simp [this]) (d := Dt) (o := listOf tv.toArray jt) (by simp) rfl q h c hc
              · exact tab_offK N8 hT2 (fun e he => by have := hsT2 e he; simp [this]) (a := Dt) (o := listOf tv.toArray jt) (by simp) (noFld_seq rfl) q h c hc
              · exact oR0 q h c (by rw [List.mem_singleton.mp hc]; simp)
            have f4 : OwnOff T2 [I4] := tab_off N8 hT2 (fun e he => by have := hsT2 e he; simp [this]) (o := oI4) (by simp) hoT4 (qR _ mps')
            have fI : OwnOff T2 [I] := tab_off N8 hT2 (fun e he => by have := hsT2 e he; simp [this]) (o := oI) (by simp) hoT (nT _ mps)
            have qR0 : ∀ q ∈ R0, @Ne Nat q.1 I4 := fun q hq => qR q (by rw [hR']; exact List.mem_append_right _ hq)
            simp only [List.cons_append, List.nil_append] at N8 o3'
            have ho0 : 0 < cw.size → oct cw 0 = oct b mk := fun h => by rw [hcw, oct_cut (by omega), Nat.add_zero]
            clear o1 o2 o3 N7
            repeat' (first | (k_unfold; (try dsimp only)) | ((fail_if_success (with_reducible show wpAny _ _ (call (Value.ref 63) _) _ _ _)); first | (k_end; wrow_close) | walk1 | (dsimp only; walk1) | (leave1; try dsimp only)))
            rename Fr _ _ _ _ => F7
            rename News _ _ _ _ => N9
            k_dflt (refine try_ct w (q := 0) (tq := tp0) B0 F7 X0 N9 T0 S ?hI (UpdF.head o3') rfl ?_ ?_ (Nat.zero_le _) (by omega) (by assumption) (by assumption) ktsDicts_nil ?okT ?okR)
            case hI => exact Sub.cons (Sub.cons (Sub.cons (Sub.cons (Sub.cons (Sub.cons (Sub.cons (Sub.cons hm2)))))))
            · ktr_room
            · ktr_units
            case okT =>
              intro h8 tk8 t18 tp8 u8 v8 j8 hlt8 hle8 hnew8 F8 N10
              have ho := ho0 hlt8
              have hmo := mk_more hmk hstk hce (by rw [← hmk0]; omega) (by rw [← hmk0]; omega)
              have hit2 := mk_itm hmk hmo
              have hnx : nth b (c + 1) = mk + 1 + oct b mk := by rw [nth, ← hmk0]
              have hcut : cutB cw (0 + 1) (oct cw 0) = itm b es c := by rw [hit2, ← hmk0, ho, hcw, cut_cut (by omega)]
              rw [hcut, ho] at N10
              simp only [List.forall_mem_cons] at hnew8
              have o3n := fun q hq => (show @Ne Nat (q : Addr × Obj).1 dx from o3' q hq)
              simp only [List.forall_mem_cons] at o3n
              obtain ⟨e1, e2, e3, e4, e5, e6, e7, -⟩ := o3n
              obtain ⟨g1, g2, g3, g4, g5, g6, g7, g8, gR⟩ := hnew8
              clear F7 N9
              repeat' (first | (k_unfold; (try dsimp only)) | ((fail_if_success (with_reducible show wpAny _ _ (call (Value.builtin "list.append") _) _ _ _)); first | (k_end; wrow_close) | walk1 | (dsimp only; walk1) | (leave1; try dsimp only)))
              rename Fr _ _ _ _ => FF
              rename News _ _ _ _ => NN
              refine append_K FF NN (.tail (Nat.ne_of_gt g4) (.tail (Ne.symm e3) (.tail (Ne.symm q2) (.tail (Ne.symm n1) (.head ?hU))))) ?_ ?z
              case z => rw [List.size_toArray, sizeLine_eq]; omega
              case hU =>
                simp only [List.forall_mem_cons]
                refine ⟨?_, ?_, ?_, ?_, fun q hq => oR2t q hq Dt (List.mem_singleton.mpr rfl)⟩
                all_goals (show @Ne Nat _ _)
                all_goals omega
              clear FF NN
              intro h10 F10' N10'
              simp only [List.push_toArray] at N10'
              have hmv : (mk : Int) + ((0 + 1 + oct b mk : Nat) : Int) = ((nth b (c + 1) : Nat) : Int) := by rw [hnx]; omega
              k_steps
              rename Fr _ _ _ _ => FF
              rename News _ _ _ _ => NN
              rw [hmv] at FF
              have hbt : BytesAre (tv ++ [Value.bytes (itm b es c) u8]) ((List.range (c + 1)).map (itm b es)) := by
                rw [List.range_succ, List.map_append, List.map_singleton]; exact htv.snoc _ _
              have hI1 : ∀ q ∈ T2, @Ne Nat q.1 I := fun q hq => fI q hq I (List.mem_singleton.mpr rfl)
              have hI2 : nth b (c + 1) ≤ cm := by rw [hnx]; omega
              have hI3 : k4 + 1 ≤ nth b (c + 1) := by rw [hnx]; omega
              refine EndY.intro (nx := (I, oI) :: (Dt, listOf (tv ++ [Value.bytes (itm b es c) u8]).toArray (jt + 1)) :: (s1.heap.objs.size + 1 + 1 + 1, oC2) :: (s1.heap.objs.size + 1 + 1, oE) :: (s1.heap.objs.size + 1, oO) :: (Do, listOf ov.toArray 0) :: (T2 ++ R0)) FF NN ⟨T2, tv ++ [Value.bytes (itm b es c) u8], jt + 1, c + 1, Str.ofString "", rfl, hT2, hI1, hbt, hmo, hI2, .inl ⟨rfl, hI3⟩, rfl, rfl, rfl, ⟨_, rfl⟩, ⟨_, rfl⟩⟩ ?sub (.tail _ (.tail _ (.head _))) ?ne
              case sub => exact sub_in hR2
              case ne =>
                simp only [List.forall_mem_cons]
                refine ⟨q1, q2, q3, q4, q5, q6, fun q hq => ?_⟩
                rcases List.mem_append.mp hq with hq | hq
                · exact f4 q hq I4 (List.mem_singleton.mpr rfl)
                · exact qR0 q hq
            case okR =>
              intro g8 h8 tk8 t18 tp8 u8 j8 hno hnew8 TT8 F8 N10 B8 X8 P8 D8
              have F11 := fr_back TT8 F8
              have N11 := news_back TT8 N10
              have hnx : nth b (c + 1) = mk + 1 + oct b mk := by rw [nth, ← hmk0]
              have hcn : cm < nth b (c + 1) := by
                rw [hnx]
                by_cases h0 : 0 < cw.size
                · have := ho0 h0; omega
                · omega
              have hrd : rdX cw 0 = rdW b mk cm := by
                unfold rdX rdW
                by_cases h0 : 0 < cw.size
                · rw [if_neg (by omega), if_neg (by omega), ho0 h0, hcz]
                · rw [if_pos (by omega), if_pos (by omega)]
              rw [hrd] at N11
              have hne' : rdW b mk cm ≠ Str.ofString "" := rdW_ne _ _ _
              clear F7 N9 F8 N10 B8 X8 P8 D8 TT8 hno hrd o3'
              k_steps
              rename Fr _ _ _ _ => FF
              rename News _ _ _ _ => NN
              refine EndY.intro FF NN ⟨T2, tv, jt, c, _, rfl, hT2, fun q hq => fI q hq I (List.mem_singleton.mpr rfl), htv, hce, by rw [← hmk0]; exact hcc, .inr ⟨by rw [← hmk0], hcn⟩, rfl, rfl, rfl, ⟨_, by rw [← hmk0]; rfl⟩, ⟨_, rfl⟩⟩ ?sub (.tail _ (.tail _ (.head _))) ?ne
              case sub => exact sub_in hR2
              case ne =>
                simp only [List.forall_mem_cons]
                refine ⟨q1, q2, q3, q4, q5, q6, fun q hq => ?_⟩
                rcases List.mem_append.mp hq with hq | hq
                · exact f4 q hq I4 (List.mem_singleton.mpr rfl)
                · exact qR0 q hq
          · skip
            have hne' : rdW b (nth b c) cm ≠ Str.ofString "" := rdW_ne _ _ _
            k_steps
            rename Fr _ _ _ _ => FF
            rename News _ _ _ _ => NN
            rw [hR'] at NN
            refine EndY.intro FF NN ⟨T, tv, jt, c, _, rfl, hT, nT, htv, hce, hcc, .inr ⟨rfl, hcn⟩, rfl, rfl, rfl, ⟨_, rfl⟩, ⟨_, rfl⟩⟩ (fun q hq => List.mem_cons_of_mem _ hq) (.head _) ?_
            rw [hR'] at qR
            simp only [List.forall_mem_cons]
            exact ⟨q1, q2, q3, q4, q5, q6, qR⟩)
end Mine
end
theorem PySem.Challenge.cw_dm0232_05_holds : PySem.Challenge.rw_dm0232_05.Holds :=
  Mine.law05
