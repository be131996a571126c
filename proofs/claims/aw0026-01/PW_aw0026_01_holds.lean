import PyProof.Rows.All
import Wide.All
import OpenK.AllK
import Wide.FinOn
import PySem.Challenge.RW_aw0026_01
set_option Elab.async false
/-! part HD -/
namespace Mine
open PySem PySem.W PyProof.Rows
set_option maxRecDepth 100000
set_option maxHeartbeats 8000000
open_top hd for PySem.Challenge.rw_aw0026_01
end Mine

/-! part JB -/
namespace Mine
open PySem PySem.W PyProof.Rows PySem.Calls
set_option maxRecDepth 100000
open Builtin

theorem join_slot : Slot "bytes" "join" "bytes.join" :=
  .of (owner := "bytes") (n := "join") (by rw [typeLookup_type, builtinLookup_eq_fast]; kernel_rfl) (by decide +kernel) (by decide +kernel) (by decide +kernel)
    (by first | exact .inl (by decide +kernel) | exact .inr (by decide +kernel)) (by rw [isSubtype_type]; kernel_rfl)
theorem join_entry : entryFor table "bytes.join" = some Builtin.«bytes.join» := entryFor_of_fast (by kernel_rfl)
theorem join_args (a b : Value) : argsOk "bytes.join" ⟨[a, b], []⟩ := by unfold argsOk; kernel_rfl
theorem join_type : typeOf (.builtin "bytes.join") = pure (.type "method_descriptor") := by show builtinType _ = _; rw [builtinType_eq_fast]; kernel_rfl

section
variable {prog : Program} {w : World} {M : Model} {A : Around} {E : Value → Shared → Prop} {s : Shared}

theorem take_quiet {id : String} {b : Array UInt8} {t : Tok} : Bytes.takeBufferQuiet? id (.bytes b t) 0 = pure (some (b, none)) := by
  unfold Bytes.takeBufferQuiet? Bytes.takeBuffer?
  rw [KBy.special_eq KBy.look_buffer, KBy.own_buffer, show ((0 : Int) == Bytes.fullReadOnly) = false from rfl, KBy.buffer_eq]
  kernel_rfl

def bytesOf : Value → Array UInt8
  | .bytes b _ => b
  | _ => #[]
def isBytes : Value → Bool
  | .bytes _ _ => true
  | _ => false

theorem joined_nil (l : List (Array UInt8)) : Bytes.joined #[] l = l.foldl (· ++ ·) #[] := by
  unfold Bytes.joined
  have key : ∀ (l : List (Array UInt8)) (k : Nat) (o : Array UInt8), (l.zipIdx k).foldl (fun out (x : Array UInt8 × Nat) => (if x.2 > 0 then out ++ #[] else out) ++ x.1) o = l.foldl (· ++ ·) o := by
    intro l
    induction l with
    | nil => intro k o; rfl
    | cons p r ih =>
      intro k o
      rw [List.zipIdx_cons, List.foldl_cons, ih, List.foldl_cons]
      congr 1
      split <;> simp
  exact key l 0 #[]
theorem sizes_foldl (l : List (Array UInt8)) : Array.foldl (fun (x1 : Nat) (x2 : Array UInt8) => x1 + x2.size) 0 l.toArray = (l.map (·.size)).sum := by
  have key : ∀ (l : List (Array UInt8)) (k : Nat), l.foldl (fun (x1 : Nat) (x2 : Array UInt8) => x1 + x2.size) k = k + (l.map (·.size)).sum := by
    intro l
    induction l with
    | nil => intro k; simp
    | cons p r ih => intro k; rw [List.foldl_cons, ih, List.map_cons, List.sum_cons]; omega
  have := key l 0
  simpa using this
theorem cat_size (l : List (Array UInt8)) : (l.foldl (· ++ ·) #[]).size = (l.map (·.size)).sum := by
  have key : ∀ (l : List (Array UInt8)) (k : Array UInt8), (l.foldl (· ++ ·) k).size = k.size + (l.map (·.size)).sum := by
    intro l
    induction l with
    | nil => intro k; simp
    | cons p r ih => intro k; rw [List.foldl_cons, ih, List.map_cons, List.sum_cons, Array.size_append]; omega
  have := key l #[]
  simpa using this
theorem joinLetGo_any : ∀ (l : List Value) (keep : List Value) (_hb : ∀ v ∈ l, isBytes v = true) (s : Shared) (Q : Unit → Shared → Prop), Q () s → wpAny M A (Bytes.joinLetGo (l.map fun v => (v, (none : Option Value))) keep) Q E s
  | [], keep, _, s, Q, h => wpAny_pure h
  | v :: r, keep, hb, s, Q, h => by
    rw [List.map_cons]
    unfold Bytes.joinLetGo
    wp_walk
    exact joinLetGo_any r keep (fun x hx => hb x (.tail _ hx)) s Q h
theorem join_go (l : Addr) (v0 v1 : Value) (r : List Value) (hb : ∀ v ∈ v0 :: v1 :: r, isBytes v = true) {s : Shared} (hl : s.heap.IsList l (v0 :: v1 :: r).toArray) (tk : Tok)
    (hsz : ((v0 :: v1 :: r).map fun v => (bytesOf v).size).sum ≤ 16777216) {Q : Fin → Shared → Prop}
    (h : ∀ t' k, Q (.done (.ret (.bytes (((v0 :: v1 :: r).map bytesOf).foldl (· ++ ·) #[]) t'))) { s with toks := k }) :
    wpAny M A (Builtin.«bytes.join» ⟨[.bytes #[] tk, .ref l], []⟩) Q E s := by
  obtain ⟨hp, g, d, tk, os⟩ := s
  obtain ⟨⟨cls, dd, data, sl⟩, ho, hc, n, hd⟩ := hl
  simp only at hc hd
  subst hc hd
  have hnone : ∀ l : List Value, (l.map fun v => (v, (none : Option Value))).flatMap (fun x => match x with | (y, u) => y :: u.toList) = l := by
    intro l; induction l with
    | nil => rfl
    | cons v r ih =>
      rw [List.map_cons, List.flatMap_cons, ih]; rfl
  have hheap : ∀ l : List Value, (∀ v ∈ l, isBytes v = true) → (l.map fun v => (v, (none : Option Value))).any (fun x => x.fst.onHeap) = false := by
    intro l; induction l with
    | nil => intro _; rfl
    | cons v r ih =>
      intro hv
      rw [List.map_cons, List.any_cons, ih fun x hx => hv x (.tail _ hx)]
      have := hv v (.head _)
      cases v <;> simp [isBytes] at this <;> rfl
  generalize hits : (v0 :: v1 :: r) = its at *
  show wpAny M A (Bytes.joinM .bytes _) Q E _
  unfold Bytes.joinM
  wp_walk using AutoSeq1.wpAny_loadPart' ho
  subst hits
  refine wpAny_bind ?_
  rw [Std.Legacy.Range.forIn_eq_forIn_range']
  generalize hits : (v0 :: v1 :: r) = its at *
  refine (wpAny_forIn_list _ (fun rest b s' => s' = ⟨hp, g, d, tk, os⟩ ∧ ∃ i, i ≤ its.length ∧ rest = List.range' i (its.length - i) ∧ b = (((its.take i).map bytesOf).toArray, (its.take i).map fun v => (v, (none : Option Value)))) _ ?turn ?fin _ _ ?start)
  case start =>
      refine ⟨rfl, 0, Nat.zero_le _, ?_, rfl⟩
      simp [Std.Legacy.Range.size]
  case turn =>
      rintro x rest ⟨b1, b2⟩ s' ⟨rfl, i, hi, hr, hb'⟩
      have hlt : i < its.length := by
        rcases Nat.lt_or_ge i its.length with q | q
        · exact q
        · rw [Nat.sub_eq_zero_of_le q] at hr; simp at hr
      rw [show its.length - i = (its.length - (i+1)) + 1 by omega, List.range'_succ] at hr
      injection hr with hx hrest
      subst hx
      have hmem := hb _ (List.getElem_mem hlt)
      obtain ⟨b, t, e⟩ : ∃ b t, its[x] = Value.bytes b t := by
        generalize its[x] = v at hmem
        cases v <;> simp [isBytes] at hmem
        exact ⟨_, _, rfl⟩
      have hv : its.toArray.getD x Value.none = .bytes b t := by
        simp [Array.getD, hlt, e]
      have htk : its.take (x + 1) = its.take x ++ [.bytes b t] := by
        rw [List.take_add_one, List.getElem?_eq_getElem hlt, e]; rfl
      have hany := hheap (its.take x) fun v hv => hb v (List.mem_of_mem_take hv)
      cases hb'
      dsimp only
      refine wpAny_bind ?_
      wp_walk using AutoSeq1.wpAny_loadPart' ho
      rw [hv, hany]
      have htq : Bytes.takeBufferQuiet? (toString Bytes.Kind.bytes.name ++ toString ".join") (.bytes b t) 0 = pure (some (b, none)) := take_quiet
      wp_walk using AutoSeq1.wpAny_loadPart' ho
      refine ⟨rfl, x + 1, hlt, hrest, ?_⟩
      rw [htk, List.map_append, List.map_append]
      simp [bytesOf]
  case fin =>
      rintro ⟨b1, b2⟩ s' ⟨rfl, i, hi, hr, hb'⟩
      have hge : its.length ≤ i := by
        rcases Nat.lt_or_ge i its.length with q | q
        · rw [show its.length - i = (its.length - (i+1)) + 1 by omega, List.range'_succ] at hr; cases hr
        · exact q
      rw [List.take_of_length_le hge] at hb'
      cases hb'
      wp_walk
      rw [if_neg (by
        show ¬ Bytes.tooLong _ = true
        rw [show (#[] : Array UInt8).size * (((List.map bytesOf its).toArray, List.map (fun v => (v, (none : Option Value))) its).fst.size - 1) = 0 from Nat.zero_mul _]
        rw [show ((List.map bytesOf its).toArray, List.map (fun v => (v, (none : Option Value))) its).fst = (List.map bytesOf its).toArray from rfl, sizes_foldl]
        rw [KBy.tooLong_not (by rw [List.map_map]; exact hsz)]
        exact Bool.false_ne_true)]
      dsimp only
      refine wpAny_bind ?_
      refine wpAny_mkBytes ?_ ?_
      · wp_walk
        refine joinLetGo_any _ _ hb _ _ ?_
        rw [joined_nil]
        exact wpAny_pure (h _ _)
      · rw [joined_nil, cat_size, List.map_map, sizeLine_eq]
        exact hsz
end
end Mine

/-! part SB -/
namespace Mine
open PySem PySem.W PyProof.Rows PySem.Calls
set_option maxRecDepth 100000
open Builtin

theorem slot_bytes_lt : Slot "bytes" "__lt__" "bytes.__lt__" :=
  .of (owner := "bytes") (n := "__lt__") (by rw [typeLookup_type, builtinLookup_eq_fast]; kernel_rfl) (by decide +kernel) (by decide +kernel) (by decide +kernel)
    (by first | exact .inl (by decide +kernel) | exact .inr (by decide +kernel)) (by rw [isSubtype_type]; kernel_rfl)
theorem entry_bytes_lt : entryFor table "bytes.__lt__" = some Builtin.«bytes.__lt__» := entryFor_of_fast (by kernel_rfl)
theorem args_bytes_lt (a b : Value) : argsOk "bytes.__lt__" ⟨[a, b], []⟩ := by unfold argsOk; kernel_rfl

def blt (a b : Array UInt8) : Bool := Bytes.order a.toList b.toList == .lt
theorem order_swap : ∀ a b : List UInt8, Bytes.order b a = (Bytes.order a b).swap
  | [], [] | [], _ :: _ | _ :: _, [] => rfl
  | x :: a, y :: b => by
    simp only [Bytes.order]
    by_cases h1 : x < y
    · have h2 : ¬ y < x := fun h => absurd (UInt8.lt_trans h1 h) (UInt8.lt_irrefl _)
      simp [h1, h2]
    · by_cases h2 : y < x
      · simp [h1, h2]
      · simp [h1, h2, order_swap a b]
/-- the pair in order -/
def sort2 (a b : Array UInt8) : Array UInt8 × Array UInt8 := if blt b a then (b, a) else (a, b)
theorem sort2_comm (a b : Array UInt8) : sort2 a b = sort2 b a := by
  unfold sort2 blt
  rw [order_swap a.toList b.toList]
  cases h : Bytes.order a.toList b.toList with
  | lt => simp
  | gt => simp
  | eq =>
    have := order_eq a.toList b.toList
    rw [h] at this
    have e : a.toList = b.toList := by simpa using this.symm
    have e' : a = b := Array.toList_inj.mp e
    subst e'
    rfl
theorem sort2_perm (a b : Array UInt8) : sort2 a b = (a, b) ∨ sort2 a b = (b, a) := by
  unfold sort2
  split
  · exact .inr rfl
  · exact .inl rfl

section
variable {prog : Program} {w : World} {M : Model} {A : Around} {E : Value → Shared → Prop} {s : Shared}
theorem gives_bytes_lt (b c : Array UInt8) (t u : Tok) : Gives («bytes.__lt__» ⟨[.bytes b t, .bytes c u], []⟩) (.val (.bool (blt b c))) := by
  refine .of_wp fun M A E s Q hq => ?_
  show wpAny M A (isInstance (.bytes c u) (.type "bytes") >>= fun r => _) _ E s
  refine wpAny_bind (wpAny_isInstance (typeIs_bytes s c u) F.sub_bytes_bytes ?_)
  exact wpAny_pure ⟨_, rfl, hq⟩
theorem kas_lt_bytes {a c : Array UInt8} {t u : Tok} {Q : Bool → Shared → Prop} (h : Q (blt a c) s) : wpAny (model prog w) A (keyLt' oneType' (.bytes a t) (.bytes c u)) Q E s := by
  rw [keyLt'_oneType]
  rw [oneLt'_eq]
  simp only [if_true]
  refine wpAny_bind (wpAny_cRoomFor_byValue rfl ?_)
  refine wpAny_bind (wpAny_callSpecialIfBound?_slot (typeIs_bytes s a t) slot_bytes_lt ?_)
  refine wpAny_call_entry slot_bytes_lt (typeIs_bytes s a t) entry_bytes_lt ?_ (args_bytes_lt _ _)
  show wpAny _ _ (isInstance (.bytes c u) (.type "bytes") >>= fun r => _) _ _ s
  refine wpAny_bind (wpAny_isInstance (typeIs_bytes s c u) F.sub_bytes_bytes ?_)
  refine wpAny_pure ⟨_, rfl, ?_⟩
  exact wpAny_truthy_bool h

theorem sorted_bytes2 {a c : Array UInt8} {t u : Tok} {l L : Addr} {h₀ : Heap} {m : Str → Option Value} {news : List (Addr × Obj)} {Q : Value → Shared → Prop} (F : Fr h₀ L s.heap m) (N : News h₀ L s.heap news)
    (hl : s.heap.IsList l [Value.bytes a t, Value.bytes c u].toArray)
    (h : ∀ D e1 h' x y tx ty, (x, y) = sort2 a c → Fr h₀ L h' m → News h₀ L h' ((D, PySem.W.listOf [Value.bytes x tx, Value.bytes y ty].toArray e1) :: news) → (∀ q ∈ news, q.1 < D) → Q (.ref D) { s with heap := h' }) :
    wpAny (model prog w) A (call (.builtin "sorted") [.ref l]) Q E s := by
  refine kas_sorted (T := .type "bytes") F N hl (by simp) (by simp) (fun h _ _ v hv => ?_) (by decide +kernel) (fun D e1 h' F' N' hD => ?_)
  · rcases List.mem_cons.mp hv with rfl | hv
    · exact Looks.of_pure rfl
    · rw [List.mem_singleton.mp hv]; exact Looks.of_pure rfl
  · show KasT.kasWp _ (kas_sort 2) _ _
    kas_step
    refine kas_lt_bytes ?_
    refine kas_split (fun hk => ?_) (fun hk => ?_)
    · kas_known
      kas_step
      kas_out
      refine KasFin.intro F' N' (UpdF.head ?_) (fun h'' c' F'' N'' => h D c' h'' c a u t ?_ F'' N'' hD)
      · exact fun p hp => Nat.ne_of_lt (hD p hp)
      · unfold sort2; rw [hk]; rfl
    · kas_known
      kas_step
      kas_out
      refine KasFin.intro F' N' (UpdF.head ?_) (fun h'' c' F'' N'' => h D c' h'' a c t u ?_ F'' N'' hD)
      · exact fun p hp => Nat.ne_of_lt (hD p hp)
      · unfold sort2; rw [hk]; rfl

open PySem.SeqAt in
theorem eqAt_bytes (b c : Array UInt8) (t u : Tok) : EqAt A s (.bytes b t) (.bytes c u) (decide (b = c)) := fun prog w E Q h => by
  unfold eqBool
  refine wpAny_holding ?_
  refine wpAny_ite_split (fun hab => ?_) (fun _ => ?_)
  · have e : Value.bytes b t = Value.bytes c u := eq_of_beq hab
    injection e with e1 e2
    rw [decide_eq_true e1] at h
    exact wpAny_bind (wpAny_rule (wpAny_pure h))
  · dsimp only
    refine wpAny_bind (PySem.W.eq_bytes (b := b) (c := c) (t := t) (u := u) (wpAny_truthy_bool ?_))
    have e : (b.toList == c.toList) = decide (b = c) := by
      by_cases hq : b = c
      · subst hq; simp
      · rw [decide_eq_false hq]
        exact beq_eq_false_iff_ne.mpr fun x => hq (Array.toList_inj.mp x)
    rw [e]
    exact h
end
end Mine

/-! part BR -/
namespace Mine
open PySem PySem.W PyProof.Rows PySem.Calls
set_option maxRecDepth 100000

/-- the four octets of a length, the greatest first -/
def be4 (n : Nat) : Array UInt8 := byteArr (KTBy.little 4 (n : Int)).reverse
/-- what the stand-in's digest gives -/
def dig (b : Array UInt8) : Array UInt8 := be4 b.size ++ b

theorem little_in : ∀ (n : Nat) (x : Int), ∀ k ∈ KTBy.little n x, 0 ≤ k ∧ k < 256
  | 0, _, k, h => by cases h
  | n + 1, x, k, h => by
    rcases List.mem_cons.mp h with rfl | h
    · omega
    · exact little_in n _ k h
theorem bInts_inj {a b : Array UInt8} (h : KBw.bInts a = KBw.bInts b) : a = b := by
  apply Array.toList_inj.mp
  have h' : a.toList.map (fun c : UInt8 => ((c.toNat : Nat) : Int)) = b.toList.map (fun c : UInt8 => ((c.toNat : Nat) : Int)) := h
  refine List.map_inj_right ?_ |>.mp h'
  intro x y hxy
  exact UInt8.toNat_inj.mp (Int.ofNat_inj.mp hxy)
theorem be4_ints (n : Nat) : KBw.bInts (be4 n) = (KTBy.little 4 (n : Int)).reverse :=
  KBa.ints_make fun k hk => little_in 4 _ k (List.mem_reverse.mp hk)
theorem be4_size (n : Nat) : (be4 n).size = 4 := by
  rw [← KBw.ints_length, be4_ints, List.length_reverse, KTBy.little_length]
theorem be4_inj {n m : Nat} (hn : n < 4294967296) (hm : m < 4294967296) (h : be4 n = be4 m) : n = m := by
  have h1 := congrArg KBw.bInts h
  rw [be4_ints, be4_ints, List.reverse_inj] at h1
  simp only [KTBy.little, List.cons.injEq, and_true] at h1
  omega
theorem dig_size (b : Array UInt8) : (dig b).size = 4 + b.size := by
  unfold dig; rw [Array.size_append, be4_size]

section
variable {prog : Program} {w : World} {M : Model} {A : Around} {E : Value → Shared → Prop} {s : Shared}
theorem to_bytes4 {n : Nat} {t u v : Tok} {Q : Value → Shared → Prop} (hn : n < 4294967296) (h : ∀ t' k', Q (.bytes (be4 n) t') { s with toks := k' }) :
    wpAny (model prog w) A (call (.builtin "int.to_bytes") [.int (n : Int) t, .int 4 u, .str (PySem.Str.ofString "big") v]) Q E s := by
  refine KTBy.to_big (k := 4) (B := 4294967296) (by decide) (by decide) (by omega) (by omega) fun b t' k' hb _ => ?_
  have e : b = be4 n := bInts_inj (hb.trans (be4_ints n).symm)
  rw [e]
  exact h t' k'
theorem join_method {b : Array UInt8} {t : Tok} {pl : Sem Bool} {Q : Value × List Value → Shared → Prop} (h : Q (.builtin "bytes.join", [.bytes b t]) s) : wpAny M A (getMethod (.bytes b t) (PySem.Str.ofString "join") pl) Q E s := by
  with_reducible exact KBd.method_of (.bytes b t) (typeIs_bytes _ _ _) join_slot join_type KBd.noRef h
theorem join_call {h₀ : Heap} {L l : Addr} {news : List (Addr × Obj)} {v0 v1 : Value} {r : List Value} {n : Nat} {t : Tok} {Q : Value → Shared → Prop} (N : News h₀ L s.heap news) (hm : (l, PySem.W.listOf (v0 :: v1 :: r).toArray n) ∈ news)
    (hb : ∀ v ∈ v0 :: v1 :: r, isBytes v = true) (hsz : ((v0 :: v1 :: r).map fun v => (bytesOf v).size).sum ≤ 16777216)
    (h : ∀ t' k, Q (.bytes (((v0 :: v1 :: r).map bytesOf).foldl (· ++ ·) #[]) t') { s with toks := k }) :
    wpAny (model prog w) A (call (.builtin "bytes.join") [.bytes #[] t, .ref l]) Q E s := by
  refine wpAny_call_entry join_slot (typeIs_bytes s _ t) join_entry ?_ (join_args _ _)
  refine join_go l v0 v1 r hb (N.isList hm) t hsz fun t' k => ⟨_, rfl, h t' k⟩
end
end Mine

/-! part DT -/
namespace Mine
open PySem PySem.W PyProof.Rows PySem.Calls
set_option maxRecDepth 100000

/-- the key of two sides, out of the word, the two names, the two messages and the element -/
def encA (pw a b x y k : Array UInt8) : Array UInt8 := dig ([dig pw, dig a, dig b, x, y, k].foldl (· ++ ·) #[])
/-- the symmetric key -/
def encS (pw a x y k : Array UInt8) : Array UInt8 := dig ([dig pw, dig a, (sort2 x y).1, (sort2 x y).2, k].foldl (· ++ ·) #[])
theorem encS_eq {pw a x y u v k : Array UInt8} (h : (u, v) = sort2 x y) : dig ([dig pw, dig a, u, v, k].foldl (· ++ ·) #[]) = encS pw a x y k := by
  unfold encS; rw [← h]
theorem sort2_le {a c x y : Array UInt8} (h : (x, y) = sort2 a c) (ha : a.size ≤ 2000) (hc : c.size ≤ 2000) : x.size ≤ 2000 ∧ y.size ≤ 2000 := by
  rcases sort2_perm a c with e | e <;> rw [e] at h <;> cases h
  · exact ⟨ha, hc⟩
  · exact ⟨hc, ha⟩

/-- six pieces: a word, two names, two messages, an element -/
structure Hand where
  pw : Array UInt8
  a : Array UInt8
  b : Array UInt8
  x : Array UInt8
  y : Array UInt8
  k : Array UInt8
def Hand.Ok (n : Nat) (h : Hand) : Prop := h.pw.size ≤ n ∧ h.a.size ≤ n ∧ h.b.size ≤ n ∧ h.k.size ≤ n ∧ h.x.size = 2 ∧ h.y.size = 2
def Hand.key (h : Hand) : Array UInt8 := encA h.pw h.a h.b h.x h.y h.k
def Hand.sym (h : Hand) : Array UInt8 := encS h.pw h.a h.x h.y h.k

def HandIn (news : List (Addr × Obj)) (v : Value) (h : Hand) : Prop :=
  ∃ r n t0 t1 t2 t3 t4 t5, v = .ref r ∧ (r, PySem.W.listOf #[.bytes h.pw t0, .bytes h.a t1, .bytes h.b t2, .bytes h.x t3, .bytes h.y t4, .bytes h.k t5] n) ∈ news
def HandsIn (news : List (Addr × Obj)) (vs : List Value) (hs : List Hand) : Prop :=
  vs.length = hs.length ∧ ∀ (i : Nat) (h : Hand), hs[i]? = some h → ∃ v, vs[i]? = some v ∧ HandIn news v h
theorem HandIn.mono {news news' : List (Addr × Obj)} {v : Value} {h : Hand} (x : HandIn news v h) (hs : ∀ p ∈ news, p ∈ news') : HandIn news' v h := by
  obtain ⟨r, n, t0, t1, t2, t3, t4, t5, e, hm⟩ := x
  exact ⟨r, n, t0, t1, t2, t3, t4, t5, e, hs _ hm⟩
theorem HandsIn.mono {news news' : List (Addr × Obj)} {vs : List Value} {hs : List Hand} (x : HandsIn news vs hs) (s : ∀ p ∈ news, p ∈ news') : HandsIn news' vs hs :=
  ⟨x.1, fun i h e => let ⟨v, hv, y⟩ := x.2 i h e; ⟨v, hv, y.mono s⟩⟩
theorem HandsIn.snoc {news : List (Addr × Obj)} {vs : List Value} {hs : List Hand} {v : Value} {h : Hand} (x : HandsIn news vs hs) (y : HandIn news v h) : HandsIn news (vs ++ [v]) (hs ++ [h]) := by
  refine ⟨by rw [List.length_append, List.length_append, x.1]; rfl, fun i g e => ?_⟩
  by_cases hi : i < hs.length
  · rw [List.getElem?_append_left hi] at e
    obtain ⟨w, hw, z⟩ := x.2 i g e
    exact ⟨w, by rw [List.getElem?_append_left (by rw [x.1]; exact hi)]; exact hw, z⟩
  · rw [List.getElem?_append_right (Nat.le_of_not_lt hi)] at e
    have h0 : i - hs.length = 0 := by
      rcases Nat.eq_zero_or_pos (i - hs.length) with q | q
      · exact q
      · rw [List.getElem?_eq_none (show [h].length ≤ i - hs.length from q)] at e; cases e
    rw [h0] at e
    cases e
    exact ⟨v, by rw [List.getElem?_append_right (by rw [x.1]; exact Nat.le_of_not_lt hi), x.1, h0]; rfl, y⟩

/-- values that are these bytes -/
def BAre (ys : List Value) (bs : List (Array UInt8)) : Prop := ys.map bytesOf = bs ∧ ∀ y ∈ ys, isBytes y = true
theorem BAre.nil : BAre [] [] := ⟨rfl, fun _ h => nomatch h⟩
theorem BAre.snoc {ys : List Value} {bs : List (Array UInt8)} {b : Array UInt8} {t : Tok} (x : BAre ys bs) : BAre (ys ++ [.bytes b t]) (bs ++ [b]) := by
  refine ⟨by rw [List.map_append, x.1]; rfl, fun y hy => ?_⟩
  rcases List.mem_append.mp hy with h | h
  · exact x.2 y h
  · rw [List.mem_singleton.mp h]; rfl
theorem BAre.length {ys : List Value} {bs : List (Array UInt8)} (x : BAre ys bs) : ys.length = bs.length := by rw [← x.1, List.length_map]
theorem BAre.get {ys : List Value} {bs : List (Array UInt8)} {i : Nat} {b : Array UInt8} (x : BAre ys bs) (h : bs[i]? = some b) : ∃ t, ys[i]? = some (.bytes b t) := by
  rw [← x.1, List.getElem?_map] at h
  cases hy : ys[i]? with
  | none => rw [hy] at h; cases h
  | some y =>
    rw [hy] at h
    have hb := x.2 y (List.mem_of_getElem? hy)
    cases y <;> simp [isBytes] at hb
    injection h with h
    exact ⟨_, by rw [← h]; rfl⟩
end Mine

/-! part EQ -/
namespace Mine
open PySem PySem.W PyProof.Rows PySem.Calls PySem.SeqAt
set_option maxRecDepth 100000

section
variable {prog : Program} {w : World} {A : Around} {E : Value → Shared → Prop} {s : Shared} {h₀ : Heap} {L : Addr} {news : List (Addr × Obj)}

theorem item_at {value slice : PySem.Expr} {l : Addr} {n : Nat} {vs : List Value} {k : Int} {u : Tok} {v : Value} {Q : Value → Shared → Prop}
    (N : News h₀ L s.heap news) (hm : (l, PySem.W.listOf vs.toArray n) ∈ news) (h0 : 0 ≤ k) (hhi : k < 2 ^ 63) (hx : vs[k.toNat]? = some v) (h : Q v s)
    (hs : subscripted slice false (.ref l) (.int k u) = operate [.ref l, .int k u] (getItem (.ref l) (.int k u)) := by with_unfolding_all rfl) :
    wpAny (model prog w) A (subscriptTail value slice (.ref l) (.int k u)) Q E s :=
  tail_any (N.isList hm).typeIs PySem.F.slot_list_getitem.lookup (wpAny_getItem_list (N.isList hm) h0 hhi (by simpa using hx) h) hs

theorem all_range_eq {xs ys : List Value} {ps qs : List (Array UInt8)} (hx : BAre xs ps) (hy : BAre ys qs) (hl : ps.length = qs.length) :
    ((List.range xs.toArray.size).all fun j => decide (ps[j]? = qs[j]?)) = decide (ps = qs) := by
  rw [List.size_toArray, hx.length]
  by_cases hq : ps = qs
  · subst hq
    simp
  · rw [decide_eq_false hq, List.all_eq_false]
    have : ¬ ∀ i, i < ps.length → ps[i]? = qs[i]? := fun h => hq (List.ext_getElem? fun i => by
      by_cases hi : i < ps.length
      · exact h i hi
      · rw [List.getElem?_eq_none (Nat.le_of_not_lt hi), List.getElem?_eq_none (by omega)])
    obtain ⟨i, hi⟩ := Classical.not_forall.mp this
    obtain ⟨h1, h2⟩ := Classical.not_imp.mp hi
    exact ⟨i, List.mem_range.mpr h1, by simpa using h2⟩
theorem items_eqAt {xs ys : List Value} {ps qs : List (Array UInt8)} (hx : BAre xs ps) (hy : BAre ys qs) :
    ∀ j (h1 : j < xs.toArray.size) (h2 : j < ys.toArray.size), EqAt A s xs.toArray[j] ys.toArray[j] (decide (ps[j]? = qs[j]?)) := by
  intro j h1 h2
  rw [List.size_toArray, hx.length] at h1
  rw [List.size_toArray, hy.length] at h2
  obtain ⟨t, e1⟩ := hx.get (List.getElem?_eq_getElem h1)
  obtain ⟨u, e2⟩ := hy.get (List.getElem?_eq_getElem h2)
  have a1 : xs.toArray[j] = .bytes ps[j] t := by
    have := (List.getElem?_eq_some_iff.mp e1).2; simpa using this
  have a2 : ys.toArray[j] = .bytes qs[j] u := by
    have := (List.getElem?_eq_some_iff.mp e2).2; simpa using this
  rw [a1, a2]
  have e : decide (ps[j]? = qs[j]?) = decide (ps[j] = qs[j]) := by
    rw [List.getElem?_eq_getElem h1, List.getElem?_eq_getElem h2]; simp
  rw [e]
  exact eqAt_bytes _ _ _ _
theorem eq_bytes_lists {a b : Addr} {n k : Nat} {xs ys : List Value} {ps qs : List (Array UInt8)} {Q : Value → Shared → Prop} (N : News h₀ L s.heap news) (ma : (a, PySem.W.listOf xs.toArray n) ∈ news) (mb : (b, PySem.W.listOf ys.toArray k) ∈ news)
    (hx : BAre xs ps) (hy : BAre ys qs) (hl : ps.length = qs.length) (hu : A.units < cLine) (h : Q (.bool (decide (ps = qs))) s) : wpAny (model prog w) A (compareOp .Eq (.ref a) (.ref b)) Q E s := by
  refine eq_listAt (N.isList ma) (N.isList mb) (by rw [List.size_toArray, List.size_toArray, hx.length, hy.length, hl]) hu (items_eqAt hx hy) ?_
  rw [all_range_eq hx hy hl]
  exact h
theorem in_two {r p q l : Addr} {n n1 n2 n3 : Nat} {xs ys zs : List Value} {ps qs rs : List (Array UInt8)} {Q : Value → Shared → Prop} (N : News h₀ L s.heap news) (hr : (r, PySem.W.listOf xs.toArray n1) ∈ news) (hp : (p, PySem.W.listOf ys.toArray n2) ∈ news) (hq : (q, PySem.W.listOf zs.toArray n3) ∈ news)
    (hl : (l, PySem.W.listOf #[.ref p, .ref q] n) ∈ news) (hx : BAre xs ps) (hy : BAre ys qs) (hz : BAre zs rs) (h1 : qs.length = ps.length) (h2 : rs.length = ps.length) (pq : p ≠ q) (pr : p ≠ r) (qr : q ≠ r) (hu : A.in1.units < cLine)
    (h : Q (.bool (decide (qs = ps) || decide (rs = ps))) s) : wpAny (model prog w) A (compareOp .In (.ref r) (.ref l)) Q E s := by
  refine in_listAt (fun y => if y = .ref p then decide (qs = ps) else decide (rs = ps)) (N.isList hl) (fun y hy' => ?_) ?_
  · have : y = .ref p ∨ y = .ref q := by simpa using hy'
    rcases this with rfl | rfl
    · rw [if_pos rfl]
      refine EqAt.of_refs pr ?_
      have := RcAt.lists (A := A.in1) (s := s) (N.isList hp) (N.isList hr) (by rw [List.size_toArray, List.size_toArray, hx.length, hy.length, h1]) hu (items_eqAt hy hx)
      rw [all_range_eq hy hx h1] at this
      exact this
    · rw [if_neg (by intro e; injection e with e; exact pq e.symm)]
      refine EqAt.of_refs qr ?_
      have := RcAt.lists (A := A.in1) (s := s) (N.isList hq) (N.isList hr) (by rw [List.size_toArray, List.size_toArray, hx.length, hz.length, h2]) hu (items_eqAt hz hx)
      rw [all_range_eq hz hx h2] at this
      exact this
  · have e : (#[Value.ref p, Value.ref q].any fun y => if y = .ref p then decide (qs = ps) else decide (rs = ps)) = (decide (qs = ps) || decide (rs = ps)) := by
      have : ¬ q = p := fun x => pq x.symm
      simp [this]
    rw [e]
    exact h
theorem eq_bytes' {b c : Array UInt8} {t u : Tok} {Q : Value → Shared → Prop} (h : Q (.bool (decide (b = c))) s) : wpAny (model prog w) A (compareOp .Eq (.bytes b t) (.bytes c u)) Q E s := by
  refine PySem.W.eq_bytes ?_
  have e : (b.toList == c.toList) = decide (b = c) := by
    by_cases hq : b = c
    · subst hq; simp
    · rw [decide_eq_false hq]
      exact beq_eq_false_iff_ne.mpr fun x => hq (Array.toList_inj.mp x)
  rw [e]
  exact h
theorem ne_same {a b : Bool} {Q : Value → Shared → Prop} (e : a = b) (h : Q (.bool false) s) : wpAny (model prog w) A (compareOp .NotEq (.bool a) (.bool b)) Q E s := by
  refine ne_bool ?_
  subst e
  rw [bne_self_eq_false]
  exact h
theorem eq_lists6 {a b : Addr} {n k : Nat} {a0 a1 a2 a3 a4 a5 b0 b1 b2 b3 b4 b5 : Array UInt8} {t0 t1 t2 t3 t4 t5 u0 u1 u2 u3 u4 u5 : Tok} {Q : Value → Shared → Prop} (N : News h₀ L s.heap news)
    (ma : (a, PySem.W.listOf #[.bytes a0 t0, .bytes a1 t1, .bytes a2 t2, .bytes a3 t3, .bytes a4 t4, .bytes a5 t5] n) ∈ news) (mb : (b, PySem.W.listOf #[.bytes b0 u0, .bytes b1 u1, .bytes b2 u2, .bytes b3 u3, .bytes b4 u4, .bytes b5 u5] k) ∈ news)
    (hu : A.units < cLine) (h : Q (.bool (decide ([a0, a1, a2, a3, a4, a5] = [b0, b1, b2, b3, b4, b5]))) s) : wpAny (model prog w) A (compareOp .Eq (.ref a) (.ref b)) Q E s :=
  eq_bytes_lists (ps := [a0, a1, a2, a3, a4, a5]) (qs := [b0, b1, b2, b3, b4, b5]) N ma mb ⟨rfl, by simp [isBytes]⟩ ⟨rfl, by simp [isBytes]⟩ rfl hu h
theorem eq_lists3 {a b : Addr} {n k : Nat} {a0 a1 a2 b0 b1 b2 : Array UInt8} {t0 t1 t2 u0 u1 u2 : Tok} {Q : Value → Shared → Prop} (N : News h₀ L s.heap news)
    (ma : (a, PySem.W.listOf #[.bytes a0 t0, .bytes a1 t1, .bytes a2 t2] n) ∈ news) (mb : (b, PySem.W.listOf #[.bytes b0 u0, .bytes b1 u1, .bytes b2 u2] k) ∈ news)
    (hu : A.units < cLine) (h : Q (.bool (decide ([a0, a1, a2] = [b0, b1, b2]))) s) : wpAny (model prog w) A (compareOp .Eq (.ref a) (.ref b)) Q E s :=
  eq_bytes_lists (ps := [a0, a1, a2]) (qs := [b0, b1, b2]) N ma mb ⟨rfl, by simp [isBytes]⟩ ⟨rfl, by simp [isBytes]⟩ rfl hu h
theorem in_pairs {r p q l : Addr} {n n1 n2 n3 : Nat} {a0 a1 b0 b1 c0 c1 : Array UInt8} {t0 t1 u0 u1 v0 v1 : Tok} {Q : Value → Shared → Prop} (N : News h₀ L s.heap news) (hr : (r, PySem.W.listOf #[.bytes a0 t0, .bytes a1 t1] n1) ∈ news) (hp : (p, PySem.W.listOf #[.bytes b0 u0, .bytes b1 u1] n2) ∈ news) (hq : (q, PySem.W.listOf #[.bytes c0 v0, .bytes c1 v1] n3) ∈ news)
    (hl : (l, PySem.W.listOf #[.ref p, .ref q] n) ∈ news) (pq : p ≠ q) (pr : p ≠ r) (qr : q ≠ r) (hu : A.in1.units < cLine)
    (h : Q (.bool (decide ([b0, b1] = [a0, a1]) || decide ([c0, c1] = [a0, a1]))) s) : wpAny (model prog w) A (compareOp .In (.ref r) (.ref l)) Q E s :=
  in_two (ps := [a0, a1]) (qs := [b0, b1]) (rs := [c0, c1]) N hr hp hq hl ⟨rfl, by simp [isBytes]⟩ ⟨rfl, by simp [isBytes]⟩ ⟨rfl, by simp [isBytes]⟩ rfl rfl pq pr qr hu h
end
end Mine

/-! part PU -/
namespace Mine
open PySem PySem.W PyProof.Rows PySem.Calls
set_option maxRecDepth 100000

theorem dig_list (b : Array UInt8) : (dig b).toList = (be4 b.size).toList ++ b.toList := by unfold dig; simp
theorem be4_length (n : Nat) : (be4 n).toList.length = 4 := by rw [Array.length_toList]; exact be4_size n
theorem dig_inj {a b : Array UInt8} (h : dig a = dig b) : a = b := by
  have h1 := congrArg Array.toList h
  rw [dig_list, dig_list] at h1
  exact Array.toList_inj.mp (List.append_inj h1 (by rw [be4_length, be4_length])).2
theorem dig_split {a b : Array UInt8} {r r' : List UInt8} (ha : a.size ≤ 2000) (hb : b.size ≤ 2000) (h : (dig a).toList ++ r = (dig b).toList ++ r') : a = b ∧ r = r' := by
  rw [dig_list, dig_list, List.append_assoc, List.append_assoc] at h
  obtain ⟨h1, h2⟩ := List.append_inj h (by rw [be4_length, be4_length])
  have h3 := be4_inj (by omega) (by omega) (Array.toList_inj.mp h1)
  obtain ⟨h4, h5⟩ := List.append_inj h2 (by rw [Array.length_toList, Array.length_toList, h3])
  exact ⟨Array.toList_inj.mp h4, h5⟩
theorem two_split {a b : Array UInt8} {r r' : List UInt8} (ha : a.size = 2) (hb : b.size = 2) (h : a.toList ++ r = b.toList ++ r') : a = b ∧ r = r' := by
  obtain ⟨h4, h5⟩ := List.append_inj h (by rw [Array.length_toList, Array.length_toList, ha, hb])
  exact ⟨Array.toList_inj.mp h4, h5⟩
theorem sort2_size {x y : Array UInt8} (hx : x.size = 2) (hy : y.size = 2) : (sort2 x y).1.size = 2 ∧ (sort2 x y).2.size = 2 := by
  rcases sort2_perm x y with e | e <;> rw [e]
  · exact ⟨hx, hy⟩
  · exact ⟨hy, hx⟩

theorem key_eq {g o : Hand} (hg : g.Ok 2000) (ho : o.Ok 2000) : decide (g.key = o.key) = decide ([g.pw, g.a, g.b, g.x, g.y, g.k] = [o.pw, o.a, o.b, o.x, o.y, o.k]) := by
  obtain ⟨z0, z1, z2, z5, z3, z4⟩ := hg
  obtain ⟨y0, y1, y2, y5, y3, y4⟩ := ho
  refine decide_eq_decide.mpr ⟨fun h => ?_, fun h => ?_⟩
  · have h1 := congrArg Array.toList (dig_inj h)
    simp only [List.foldl_cons, List.foldl_nil, Array.toList_append, List.nil_append, List.append_assoc] at h1
    obtain ⟨e0, h1⟩ := dig_split z0 y0 h1
    obtain ⟨e1, h1⟩ := dig_split z1 y1 h1
    obtain ⟨e2, h1⟩ := dig_split z2 y2 h1
    obtain ⟨e3, h1⟩ := two_split z3 y3 h1
    obtain ⟨e4, h1⟩ := two_split z4 y4 h1
    have e5 := Array.toList_inj.mp h1
    rw [e0, e1, e2, e3, e4, e5]
  · simp only [List.cons.injEq, and_true] at h
    obtain ⟨e0, e1, e2, e3, e4, e5⟩ := h
    unfold Hand.key
    rw [e0, e1, e2, e3, e4, e5]

theorem sort2_eq {x y u v : Array UInt8} : sort2 x y = sort2 u v ↔ ([u, v] = [x, y] ∨ [v, u] = [x, y]) := by
  constructor
  · intro h
    rcases sort2_perm x y with e | e <;> rcases sort2_perm u v with f | f <;> rw [e, f] at h <;> injection h with h1 h2 <;> subst h1 <;> subst h2
    · exact .inl rfl
    · exact .inr rfl
    · exact .inr rfl
    · exact .inl rfl
  · rintro (h | h) <;> injection h with h1 h2 <;> injection h2 with h2 _ <;> subst h1 <;> subst h2
    · rfl
    · exact sort2_comm _ _

theorem sym_eq {g o : Hand} (hg : g.Ok 2000) (ho : o.Ok 2000) : decide (g.sym = o.sym) = (decide ([g.pw, g.a, g.k] = [o.pw, o.a, o.k]) && (decide ([o.x, o.y] = [g.x, g.y]) || decide ([o.y, o.x] = [g.x, g.y]))) := by
  obtain ⟨z0, z1, z2, z5, z3, z4⟩ := hg
  obtain ⟨y0, y1, y2, y5, y3, y4⟩ := ho
  rw [← Bool.decide_or, ← Bool.decide_and]
  refine decide_eq_decide.mpr ⟨fun h => ?_, fun h => ?_⟩
  · have h1 := congrArg Array.toList (dig_inj h)
    simp only [List.foldl_cons, List.foldl_nil, Array.toList_append, List.nil_append, List.append_assoc] at h1
    obtain ⟨e0, h1⟩ := dig_split z0 y0 h1
    obtain ⟨e1, h1⟩ := dig_split z1 y1 h1
    obtain ⟨s1, s2⟩ := sort2_size z3 z4
    obtain ⟨r1, r2⟩ := sort2_size y3 y4
    obtain ⟨e2, h1⟩ := two_split s1 r1 h1
    obtain ⟨e3, h1⟩ := two_split s2 r2 h1
    have e5 := Array.toList_inj.mp h1
    refine ⟨by rw [e0, e1, e5], sort2_eq.mp (Prod.ext e2 e3)⟩
  · obtain ⟨h1, h2⟩ := h
    simp only [List.cons.injEq, and_true] at h1
    obtain ⟨e0, e1, e5⟩ := h1
    have := sort2_eq.mpr h2
    unfold Hand.sym encS
    rw [e0, e1, e5, this]
end Mine

/-! part AST -/
namespace Mine
open PySem PySem.W PyProof.Rows
set_option maxRecDepth 100000

/-- the law's own statements and scope, taken out of the row by place -/
def lawDef : Stmt := PySem.Challenge.pw_aw0026_01.main.body.getD 9 (.Pass ⟨0, 0, 0, 0⟩)
def bodyOf : Stmt → List Stmt
  | .FunctionDef _ _ b _ _ _ _ _ _ _ => b
  | .For _ _ b _ _ => b
  | _ => []
def scopeOf : Stmt → Scope
  | .FunctionDef _ _ _ _ _ _ s _ _ _ => s
  | _ => default
def lawBody : List Stmt := bodyOf lawDef
def lawScope : Scope := scopeOf lawDef
def stAt (i : Nat) : Stmt := lawBody.getD i (.Pass ⟨0, 0, 0, 0⟩)
def valOfSt : Stmt → Expr
  | .Assign _ v _ => v
  | _ => .Constant .none 0 ⟨0, 0, 0, 0⟩
def eltOf : Expr → Expr
  | .ListComp e _ _ _ => e
  | e => e
def compScopeOf : Expr → Scope
  | .ListComp _ _ s _ => s
  | _ => default
/-- keys' element, both's element, and their blocks' scopes -/
def eltK : Expr := eltOf (valOfSt (stAt 6))
def eltB : Expr := eltOf (valOfSt (stAt 7))
def scK : Scope := compScopeOf (valOfSt (stAt 6))
def scB : Scope := compScopeOf (valOfSt (stAt 7))
/-- the loop over the numbers: its body; the two loops at the end: the outer's body, the inner's -/
def turnBody : List Stmt := bodyOf (stAt 5)
def outerBody : List Stmt := bodyOf (stAt 8)
def innerBody : List Stmt := bodyOf (outerBody.getD 0 (.Pass ⟨0, 0, 0, 0⟩))
/-- the six turns at the head -/
def headBody : List Stmt := bodyOf (stAt 3)
def lawEnv (L fa : Addr) (cd : Value) : Env := envOf (Str.ofString "law") lawScope L fa cd

example : lawBody.length = 10 := by decide +kernel
example : turnBody.length = 4 := by decide +kernel
example : innerBody.length = 5 := by decide +kernel
end Mine

/-! part C1 -/
namespace Mine
open PySem PySem.W PyProof.Rows PySem.Calls
set_option maxRecDepth 100000
set_option maxHeartbeats 8000000
abbrev ol : OpenLaw := PySem.Challenge.rw_aw0026_01

/-- a def's body has run: nothing that stood has been changed -/
def PureEnd (g : Heap) (L' : Addr) (s : Shared) (V : Value → Prop) (fl : Flow) (s' : Shared) : Prop :=
  ∃ h' tk m', s' = { s with heap := h', toks := tk } ∧ Fr g L' h' m' ∧ V (match fl with | .ret v => v | _ => .none)
theorem PureEnd.ret {g : Heap} {L' : Addr} {s : Shared} {V : Value → Prop} {v : Value} {h' : Heap} {tk : Nat} {m' : Str → Option Value} (F : Fr g L' h' m') (hv : V v) : PureEnd g L' s V (.ret v) { s with heap := h', toks := tk } := ⟨h', tk, m', rfl, F, hv⟩

theorem code_pure {prog : Program} {w : World} {A₀ A : Around} {s : Shared} {base h₀ : Heap} {outer : List Env} {L : Addr} {m : Str → Option Value} {env : Env} {K : Frag} {p : Program} {loose : List Str} {mean : ExcName → Option Value} {mg mb : Str → Option Value} {name qual : Str} {params : Arguments} {body : List Stmt} {scope : Scope} {dV kV doc pm cdv ct oc : Value} {an od : Option Addr} {osl : Array (Option Value)} {f : Addr} {args : Args} {binds : List (Str × Value)} {Q : Value → Shared → Prop} {E : Value → Shared → Prop} {V : Value → Prop}
    (B : Below A₀ base outer h₀) (F : Fr h₀ L s.heap m) (X₀ : K.In h₀) (T : Top p loose mean mg mb h₀) (hA : A.frames = some (env :: outer)) (hf : env.frame = some L) (hke : env.scope.kind = .function)
    (ho : K.lookup f = some ⟨oc, od, .func (fnOf name qual params body scope dV kV doc pm an cdv ct), osl⟩) (hcd : codeIn K cdv qual = true) (hroom : A.depth < recursionLimit)
    (hbind : BindsTo s (fnOf name qual params body scope dV kV doc pm an cdv ct) args binds) (hloc : ∀ y ∈ binds, scope.names.lookup y.1 = some .local)
    (hQ : ∀ v h' tk, V v → (∀ b o, s.heap.get? b = some o → h'.get? b = some o) → Q v { s with heap := h', toks := tk })
    (h : ∀ g L' h₁, Fr g L' h₁ (fun y => binds.reverse.lookup y) → News g L' h₁ [] → Below A base (env :: outer) g → K.In g → Top p loose mean mg mb g →
      wpAny (model prog w) (A.deeper (envOf qual scope L' f cdv)) (execs body (envOf qual scope L' f cdv)) (PureEnd g L' s V) (fun _ _ => False) { s with heap := h₁, toks := s.toks + binds.length })
    (hco : scope.isCoroutine = false) (hgen : scope.isGenerator = false) (hk : scope.kind = .function)
    (hcell : ∀ x ∈ scope.names, x.2 ≠ .cell) : codeAny (model prog w) A (.call (.ref f) args) (fun r s' => match r with | .ok (.ret v) => Q v s' | .ok _ => False | .error e => E e s') s := by
  refine code_defG B F X₀ News.nil T hA hf hke ho hcd hroom hbind hloc (fun g L' h₁ FG F' N' B' X' T' G => ?_) hco hgen hk hcell
  refine wpAny_mono (h g L' h₁ F' N' B' X' T') (fun fl s' hl => ?_) (fun _ _ e => e.elim)
  obtain ⟨h', tk, m', rfl, F₂, hv⟩ := hl
  refine leaveK_ F₂ News.nil (fun _ _ => ?_)
  exact hQ _ _ _ hv fun b o e => F₂.keep b o (G b o e (fun q => nomatch q))

local macro_rules | `(tactic| walk_at "getMethod bytes") => `(tactic| (k_here; (with_reducible refine join_method ?_)))
local macro_rules | `(tactic| walk_at "call builtin:len") => `(tactic| (k_here; (with_reducible show wpAny _ _ (call (Value.builtin "len") [Value.bytes _ _]) _ _ _); (refine PySem.W.len_bytes ?zz ?_; (case zz => ((try simp only [Array.size_append, be4_size, dig_size, bytesOf, List.map_cons, List.map_nil, List.foldl_cons, List.foldl_nil, List.size_toArray, List.length_nil]); omega)))))
local macro_rules | `(tactic| walk_at "call builtin:int.to_bytes") => `(tactic| (k_here; k_dflt (refine to_bytes4 ?zz ?_; (case zz => ((try simp only [Array.size_append, be4_size, dig_size, bytesOf, List.map_cons, List.map_nil, List.foldl_cons, List.foldl_nil, List.size_toArray, List.length_nil]); omega))); intro _ _))
local macro_rules | `(tactic| walk_at "binaryOp Add bytes bytes") => `(tactic| (k_here; (refine KBy.add_bytes ?zz ?_; (case zz => ((try simp only [Array.size_append, be4_size, dig_size, bytesOf, List.map_cons, List.map_nil, List.foldl_cons, List.foldl_nil, List.size_toArray, List.length_nil]); omega))); intro _ _))
local macro_rules | `(tactic| walk_at "call builtin:bytes.join") => `(tactic| (k_here; k_dflt (refine' join_call ?N ?hm ?hb ?hsz ?_; (case N => k_asm); (case hm => k_mem); (case hb => simp [isBytes]); (case hsz => ((try simp only [Array.size_append, be4_size, dig_size, bytesOf, List.map_cons, List.map_nil, List.sum_cons, List.sum_nil]); omega)); k_whole); intro _ _))
local macro_rules | `(tactic| walk_at "call builtin:sorted") => `(tactic| (k_here; (with_reducible show wpAny _ _ (call (Value.builtin _) [Value.ref _]) _ _ _); k_dflt (refine' sorted_bytes2 ?k1 ?k2 ?k3 ?_; (case k1 => k_asm); (case k2 => k_asm); (case k3 => exact News.isList (by k_asm) (by k_mem)); k_whole); intro D' e1' h' x' y' tx' ty' hxy' F' N' l1; (have hxz := sort2_le hxy' (by assumption) (by assumption)); (obtain ⟨hxz1, hxz2⟩ := hxz); (try k_lt l1); (try k_sweep)))
theorem call_fin {w : World} {h₀ : Heap} {p : Program} {loose : List Str} {mean : ExcName → Option Value} {mg mb : Str → Option Value} {nm : Str} {sc : Scope} {L fa : Addr} {cd : Value} {m : Str → Option Value} {s : Shared} {Q : Value → Shared → Prop} {E : Value → Shared → Prop} {b1 b2 b3 b4 b5 b6 : Array UInt8} {t1 t2 t3 t4 t5 t6 : Tok} 
  (h : ∀ h' tk t, (∀ b o, s.heap.get? b = some o → h'.get? b = some o) → Q (.bytes (encA b6 b1 b2 b3 b4 b5) t) { s with heap := h', toks := tk })
  (z1 : b1.size ≤ 2000) (z2 : b2.size ≤ 2000) (z3 : b3.size ≤ 2000) (z4 : b4.size ≤ 2000) (z5 : b5.size ≤ 2000) (z6 : b6.size ≤ 2000) :
  (hd.heap_39 w.params).In h₀ → Top p loose mean mg mb h₀ → Below callerA h₀ [] h₀ → Fr h₀ L s.heap m → sc.kind = .function →
    wpAny (model ol.row.prog w) (callerA.deeper (envOf nm sc L fa cd)) (call (.ref 63) [.bytes b1 t1, .bytes b2 t2, .bytes b3 t3, .bytes b4 t4, .bytes b5 t5, .bytes b6 t6]) Q E s := by
  k_fill
  w_top off
  intro KX T B F hk
  refine wpAny_call ?_
  refine' code_pure (binds := [(Str.ofString "idA", .bytes b1 t1), (Str.ofString "idB", .bytes b2 t2), (Str.ofString "X_msg", .bytes b3 t3), (Str.ofString "Y_msg", .bytes b4 t4), (Str.ofString "K_bytes", .bytes b5 t5), (Str.ofString "pw", .bytes b6 t6)]) (V := fun v => ∃ t, v = .bytes (encA b6 b1 b2 b3 b4 b5) t) ?k1 ?k2 ?k3 ?k5 ?kA ?kF ?kK ?k6 ?k7 ?k8 ?k9 ?kB ?kQ ?_ ?c2 ?c3 ?c4 ?c5
  case kA => exact rfl
  case kF => exact rfl
  case kK => exact hk
  case k1 => exact B
  case k2 => exact F
  case k3 => exact KX
  case k5 => exact T
  case k6 => k_is
  case k7 => k_is
  case k8 => k_room
  case k9 => exact BindsTo.of_eq rfl
  case c5 => decide
  case kB => exact locs rfl
  case c2 => exact rfl
  case c3 => exact rfl
  case c4 => exact rfl
  case kQ => rintro v h' tk ⟨t, rfl⟩ hh; exact h h' tk t hh
  intro g' L' h' F' N' B' X' T'
  (try dsimp only)
  clear KX T B F
  repeat (first | (k_unfold; (try dsimp only)) | walk1 | (dsimp only; walk1) | (leave1; walk_say "STEP leave1"; try dsimp only))
  exact PureEnd.ret (by assumption) ⟨_, rfl⟩
theorem call_sym {w : World} {h₀ : Heap} {p : Program} {loose : List Str} {mean : ExcName → Option Value} {mg mb : Str → Option Value} {nm : Str} {sc : Scope} {L fa : Addr} {cd : Value} {m : Str → Option Value} {s : Shared} {Q : Value → Shared → Prop} {E : Value → Shared → Prop} {b1 b2 b3 b4 b5 : Array UInt8} {t1 t2 t3 t4 t5 : Tok} 
  (h : ∀ h' tk t, (∀ b o, s.heap.get? b = some o → h'.get? b = some o) → Q (.bytes (encS b5 b1 b2 b3 b4) t) { s with heap := h', toks := tk })
  (z1 : b1.size ≤ 2000) (z2 : b2.size ≤ 2000) (z3 : b3.size ≤ 2000) (z4 : b4.size ≤ 2000) (z5 : b5.size ≤ 2000) :
  (hd.heap_39 w.params).In h₀ → Top p loose mean mg mb h₀ → Below callerA h₀ [] h₀ → Fr h₀ L s.heap m → sc.kind = .function →
    wpAny (model ol.row.prog w) (callerA.deeper (envOf nm sc L fa cd)) (call (.ref 70) [.bytes b1 t1, .bytes b2 t2, .bytes b3 t3, .bytes b4 t4, .bytes b5 t5]) Q E s := by
  k_fill
  w_top off
  intro KX T B F hk
  refine wpAny_call ?_
  refine' code_pure (binds := [(Str.ofString "idSymmetric", .bytes b1 t1), (Str.ofString "msg1", .bytes b2 t2), (Str.ofString "msg2", .bytes b3 t3), (Str.ofString "K_bytes", .bytes b4 t4), (Str.ofString "pw", .bytes b5 t5)]) (V := fun v => ∃ t, v = .bytes (encS b5 b1 b2 b3 b4) t) ?k1 ?k2 ?k3 ?k5 ?kA ?kF ?kK ?k6 ?k7 ?k8 ?k9 ?kB ?kQ ?_ ?c2 ?c3 ?c4 ?c5
  case kA => exact rfl
  case kF => exact rfl
  case kK => exact hk
  case k1 => exact B
  case k2 => exact F
  case k3 => exact KX
  case k5 => exact T
  case k6 => k_is
  case k7 => k_is
  case k8 => k_room
  case k9 => exact BindsTo.of_eq rfl
  case c5 => decide
  case kB => exact locs rfl
  case c2 => exact rfl
  case c3 => exact rfl
  case c4 => exact rfl
  case kQ => rintro v h' tk ⟨t, rfl⟩ hh; exact h h' tk t hh
  intro g' L' h' F' N' B' X' T'
  (try dsimp only)
  clear KX T B F
  repeat (first | (k_unfold; (try dsimp only)) | walk1 | (dsimp only; walk1) | (leave1; walk_say "STEP leave1"; try dsimp only))
  exact PureEnd.ret (by assumption) ⟨_, congrArg (fun z => Value.bytes z _) (encS_eq (pw := b5) (a := b1) (k := b4) (by assumption))⟩
end Mine

/-! part C2 -/
namespace Mine
open PySem PySem.W PyProof.Rows PySem.Calls
set_option maxRecDepth 100000
set_option maxHeartbeats 8000000

local macro_rules | `(tactic| walk_at "call ref") => `(tactic| (k_here; (with_reducible show wpAny _ _ (call (Value.ref _) [Value.bytes _ _, Value.bytes _ _, Value.bytes _ _, Value.bytes _ _, Value.bytes _ _, Value.bytes _ _]) _ _ _); k_dflt (refine' call_fin ?h ?z1 ?z2 ?z3 ?z4 ?z5 ?z6 ?k1 ?k2 ?k3 ?k4 ?k5; (case z1 => assumption); (case z2 => assumption); (case z3 => assumption); (case z4 => assumption); (case z5 => assumption); (case z6 => assumption); (case k1 => k_asm); (case k2 => k_asm); (case k3 => k_asm); (case k4 => k_asm); (case k5 => exact rfl)); intro h' tk' t' hkeep'))

local macro_rules | `(tactic| walk_at "call ref") => `(tactic| (k_here; (with_reducible show wpAny _ _ (call (Value.ref _) [Value.bytes _ _, Value.bytes _ _, Value.bytes _ _, Value.bytes _ _, Value.bytes _ _]) _ _ _); k_dflt (refine' call_sym ?h ?z1 ?z2 ?z3 ?z4 ?z5 ?k1 ?k2 ?k3 ?k4 ?k5; (case z1 => assumption); (case z2 => assumption); (case z3 => assumption); (case z4 => assumption); (case z5 => assumption); (case k1 => k_asm); (case k2 => k_asm); (case k3 => k_asm); (case k4 => k_asm); (case k5 => exact rfl)); intro h' tk' t' hkeep'))

theorem elt_keys {w : World} {h₀ : Heap} {p : Program} {loose : List Str} {mean : ExcName → Option Value} {mg mb : Str → Option Value} {L fa C r : Addr} {oC : Obj} {n : Nat} {cd : Value} {m m₂ : Str → Option Value} {s : Shared} {Q : Value → Shared → Prop} {E : Value → Shared → Prop} {b0 b1 b2 b3 b4 b5 : Array UInt8} {t0 t1 t2 t3 t4 t5 : Tok}
  (h : ∀ h' tk t, (∀ b o, s.heap.get? b = some o → h'.get? b = some o) → Q (.bytes (encA b0 b1 b2 b3 b4 b5) t) { s with heap := h', toks := tk })
  (z0 : b0.size ≤ 2000) (z1 : b1.size ≤ 2000) (z2 : b2.size ≤ 2000) (z3 : b3.size ≤ 2000) (z4 : b4.size ≤ 2000) (z5 : b5.size ≤ 2000) 
  (hone : m₂ (Str.ofString "one") = some (.ref r)) (hC : LCg.NsObj oC m₂) :
  (hd.heap_39 w.params).In h₀ → Top p loose mean mg mb h₀ → Below callerA h₀ [] h₀ → Fr h₀ L s.heap m → News h₀ L s.heap [(C, oC), (r, PySem.W.listOf #[.bytes b0 t0, .bytes b1 t1, .bytes b2 t2, .bytes b3 t3, .bytes b4 t4, .bytes b5 t5] n)] →
    wpAny (model ol.row.prog w) (callerA.deeper (lawEnv L fa cd)) (eval eltK (compEnvC scK [] C (lawEnv L fa cd))) Q E s := by
  k_fill
  w_top off
  have he : eltK = eltK := rfl
  conv at he => rhs; whnf
  rw [he]
  have he2 : scK = scK := rfl
  conv at he2 => rhs; whnf
  rw [he2]
  have he3 : lawScope = lawScope := rfl
  conv at he3 => rhs; whnf
  unfold lawEnv
  rw [he3]
  clear he he2 he3
  intro KX T B F N
  repeat (first | (k_unfold; (try dsimp only)) | walk1 | (dsimp only; walk1) | (leave1; walk_say "STEP leave1"; try dsimp only))
  exact h _ _ _ (by assumption)
theorem elt_both {w : World} {h₀ : Heap} {p : Program} {loose : List Str} {mean : ExcName → Option Value} {mg mb : Str → Option Value} {L fa C r : Addr} {oC : Obj} {n : Nat} {cd : Value} {m m₂ : Str → Option Value} {s : Shared} {Q : Value → Shared → Prop} {E : Value → Shared → Prop} {b0 b1 b2 b3 b4 b5 : Array UInt8} {t0 t1 t2 t3 t4 t5 : Tok}
  (h : ∀ h' tk t, (∀ b o, s.heap.get? b = some o → h'.get? b = some o) → Q (.bytes (encS b0 b1 b3 b4 b5) t) { s with heap := h', toks := tk })
  (z0 : b0.size ≤ 2000) (z1 : b1.size ≤ 2000) (z2 : b2.size ≤ 2000) (z3 : b3.size ≤ 2000) (z4 : b4.size ≤ 2000) (z5 : b5.size ≤ 2000) 
  (hone : m₂ (Str.ofString "one") = some (.ref r)) (hC : LCg.NsObj oC m₂) :
  (hd.heap_39 w.params).In h₀ → Top p loose mean mg mb h₀ → Below callerA h₀ [] h₀ → Fr h₀ L s.heap m → News h₀ L s.heap [(C, oC), (r, PySem.W.listOf #[.bytes b0 t0, .bytes b1 t1, .bytes b2 t2, .bytes b3 t3, .bytes b4 t4, .bytes b5 t5] n)] →
    wpAny (model ol.row.prog w) (callerA.deeper (lawEnv L fa cd)) (eval eltB (compEnvC scB [] C (lawEnv L fa cd))) Q E s := by
  k_fill
  w_top off
  have he : eltB = eltB := rfl
  conv at he => rhs; whnf
  rw [he]
  have he2 : scB = scB := rfl
  conv at he2 => rhs; whnf
  rw [he2]
  have he3 : lawScope = lawScope := rfl
  conv at he3 => rhs; whnf
  unfold lawEnv
  rw [he3]
  clear he he2 he3
  intro KX T B F N
  repeat (first | (k_unfold; (try dsimp only)) | walk1 | (dsimp only; walk1) | (leave1; walk_say "STEP leave1"; try dsimp only))
  exact h _ _ _ (by assumption)
end Mine

/-! part C3 -/
namespace Mine
open PySem PySem.W PyProof.Rows PySem.Calls
set_option maxRecDepth 100000
set_option maxHeartbeats 8000000

theorem exec_keys {w : World} {h₀ : Heap} {p : Program} {loose : List Str} {mean : ExcName → Option Value} {mg mb : Str → Option Value} {L fa H nH : Addr} {cd : Value} {m : Str → Option Value} {s : Shared} {Q : Flow → Shared → Prop} {E : Value → Shared → Prop}
  {hs : List Hand} {vs : List Value} {news : List (Addr × Obj)}
  (hm : m (Str.ofString "hands") = some (.ref H)) (hH : (H, PySem.W.listOf vs.toArray nH) ∈ news) (hI : HandsIn news vs hs) (hok : ∀ g ∈ hs, g.Ok 2000) (hlen : hs.length ≤ 100)
  (h : ∀ D h' tk ys, BAre ys (hs.map Hand.key) → Fr h₀ L h' (fun z => if z = Str.ofString "keys" then some (.ref D) else m z) → News h₀ L h' ((D, LCg.lst ys) :: news) → Q .next { s with heap := h', toks := tk })
  (KX : (hd.heap_39 w.params).In h₀) (T : Top p loose mean mg mb h₀) (B : Below callerA h₀ [] h₀) (F : Fr h₀ L s.heap m) (N : News h₀ L s.heap news) :
    wpAny (model ol.row.prog w) (callerA.deeper (lawEnv L fa cd)) (exec (stAt 6) (lawEnv L fa cd)) Q E s := by
  have he : stAt 6 = stAt 6 := rfl
  conv at he => rhs; whnf
  rw [he]
  clear he
  refine LCg.Assign_ListComp_U (elt := eltK) (scope := scK) (cl := []) (F₀ := F) rfl (by with_unfolding_all rfl) rfl (by decide +kernel) rfl (by decide +kernel) (by decide +kernel) rfl rfl ?_
  refine ld F hm ?_ rfl rfl rfl
  refine LCg.CompSrc.ledger rfl F N hH (by rw [List.size_toArray, hI.1, sizeLine_eq]; omega) fun g' => ?_
  have key : ∀ (k i : Nat) (ys : List Value), i + k = hs.length → BAre ys ((hs.take i).map Hand.key) →
      LCg.CompRest ol.row.prog w (callerA.deeper (lawEnv L fa cd)) h₀ L m (lawEnv L fa cd) eltK (Str.ofString "one") scK [] { s with heap := g' } (LCg.SrcAt h₀ H vs.toArray) (fun i v => vs.toArray[i]? = some v)
        (LCg.FinA h₀ L m { s with heap := g' } (Str.ofString "keys") Q) k i ys news := by
    intro k
    induction k with
    | zero =>
      intro i ys hik hys
      rw [List.take_of_length_le (by omega)] at hys
      exact LCg.CompRest.zero fun D h' tk F' N' _ => h D h' tk ys hys F' N'
    | succ k ih =>
      intro i ys hik hys
      refine LCg.CompRest.succ fun v I oI C oC D m₂ h' tk E' hP hC hx F' N' off ne => ?_
      have hlt : i < hs.length := by omega
      obtain ⟨v', hv', r, n, t0, t1, t2, t3, t4, t5, rfl, hr⟩ := hI.2 i _ (List.getElem?_eq_getElem hlt)
      have e : v = .ref r := by
        rw [List.getElem?_toArray, hv'] at hP; exact (Option.some.inj hP).symm
      subst e
      obtain ⟨z0, z1, z2, z5, z3, z4⟩ := hok _ (List.getElem_mem hlt)
      have N'' : News h₀ L h' [(C, oC), (r, PySem.W.listOf #[.bytes hs[i].pw t0, .bytes hs[i].a t1, .bytes hs[i].b t2, .bytes hs[i].x t3, .bytes hs[i].y t4, .bytes hs[i].k t5] n)] := by
        intro q hq
        rcases List.mem_cons.mp hq with rfl | hq
        · exact N' _ (List.mem_cons_of_mem _ List.mem_cons_self)
        · rw [List.mem_singleton.mp hq]
          exact N' _ (List.mem_cons_of_mem _ (List.mem_cons_of_mem _ (List.mem_cons_of_mem _ hr)))
      refine elt_keys (fun h'' tk'' t hk => ?_) z0 z1 z2 (by omega) (by omega) z5 hx hC KX T B F' N''
      refine LCg.CompEnd.intro (F'.keeps hk) (N'.grown hk) news (fun q hq => hq) off (.inr ⟨_, hH, rfl, _, rfl⟩) (ih (i + 1) _ (by omega) ?_)
      rw [List.take_add_one, List.getElem?_eq_getElem hlt, List.map_append]
      exact hys.snoc
  have := key hs.length 0 [] (by omega) (by simpa using BAre.nil)
  rw [List.size_toArray, hI.1]
  exact this
theorem exec_both {w : World} {h₀ : Heap} {p : Program} {loose : List Str} {mean : ExcName → Option Value} {mg mb : Str → Option Value} {L fa H nH : Addr} {cd : Value} {m : Str → Option Value} {s : Shared} {Q : Flow → Shared → Prop} {E : Value → Shared → Prop}
  {hs : List Hand} {vs : List Value} {news : List (Addr × Obj)}
  (hm : m (Str.ofString "hands") = some (.ref H)) (hH : (H, PySem.W.listOf vs.toArray nH) ∈ news) (hI : HandsIn news vs hs) (hok : ∀ g ∈ hs, g.Ok 2000) (hlen : hs.length ≤ 100)
  (h : ∀ D h' tk ys, BAre ys (hs.map Hand.sym) → Fr h₀ L h' (fun z => if z = Str.ofString "both" then some (.ref D) else m z) → News h₀ L h' ((D, LCg.lst ys) :: news) → Q .next { s with heap := h', toks := tk })
  (KX : (hd.heap_39 w.params).In h₀) (T : Top p loose mean mg mb h₀) (B : Below callerA h₀ [] h₀) (F : Fr h₀ L s.heap m) (N : News h₀ L s.heap news) :
    wpAny (model ol.row.prog w) (callerA.deeper (lawEnv L fa cd)) (exec (stAt 7) (lawEnv L fa cd)) Q E s := by
  have he : stAt 7 = stAt 7 := rfl
  conv at he => rhs; whnf
  rw [he]
  clear he
  refine LCg.Assign_ListComp_U (elt := eltB) (scope := scB) (cl := []) (F₀ := F) rfl (by with_unfolding_all rfl) rfl (by decide +kernel) rfl (by decide +kernel) (by decide +kernel) rfl rfl ?_
  refine ld F hm ?_ rfl rfl rfl
  refine LCg.CompSrc.ledger rfl F N hH (by rw [List.size_toArray, hI.1, sizeLine_eq]; omega) fun g' => ?_
  have key : ∀ (k i : Nat) (ys : List Value), i + k = hs.length → BAre ys ((hs.take i).map Hand.sym) →
      LCg.CompRest ol.row.prog w (callerA.deeper (lawEnv L fa cd)) h₀ L m (lawEnv L fa cd) eltB (Str.ofString "one") scB [] { s with heap := g' } (LCg.SrcAt h₀ H vs.toArray) (fun i v => vs.toArray[i]? = some v)
        (LCg.FinA h₀ L m { s with heap := g' } (Str.ofString "both") Q) k i ys news := by
    intro k
    induction k with
    | zero =>
      intro i ys hik hys
      rw [List.take_of_length_le (by omega)] at hys
      exact LCg.CompRest.zero fun D h' tk F' N' _ => h D h' tk ys hys F' N'
    | succ k ih =>
      intro i ys hik hys
      refine LCg.CompRest.succ fun v I oI C oC D m₂ h' tk E' hP hC hx F' N' off ne => ?_
      have hlt : i < hs.length := by omega
      obtain ⟨v', hv', r, n, t0, t1, t2, t3, t4, t5, rfl, hr⟩ := hI.2 i _ (List.getElem?_eq_getElem hlt)
      have e : v = .ref r := by
        rw [List.getElem?_toArray, hv'] at hP; exact (Option.some.inj hP).symm
      subst e
      obtain ⟨z0, z1, z2, z5, z3, z4⟩ := hok _ (List.getElem_mem hlt)
      have N'' : News h₀ L h' [(C, oC), (r, PySem.W.listOf #[.bytes hs[i].pw t0, .bytes hs[i].a t1, .bytes hs[i].b t2, .bytes hs[i].x t3, .bytes hs[i].y t4, .bytes hs[i].k t5] n)] := by
        intro q hq
        rcases List.mem_cons.mp hq with rfl | hq
        · exact N' _ (List.mem_cons_of_mem _ List.mem_cons_self)
        · rw [List.mem_singleton.mp hq]
          exact N' _ (List.mem_cons_of_mem _ (List.mem_cons_of_mem _ (List.mem_cons_of_mem _ hr)))
      refine elt_both (fun h'' tk'' t hk => ?_) z0 z1 z2 (by omega) (by omega) z5 hx hC KX T B F' N''
      refine LCg.CompEnd.intro (F'.keeps hk) (N'.grown hk) news (fun q hq => hq) off (.inr ⟨_, hH, rfl, _, rfl⟩) (ih (i + 1) _ (by omega) ?_)
      rw [List.take_add_one, List.getElem?_eq_getElem hlt, List.map_append]
      exact hys.snoc
  have := key hs.length 0 [] (by omega) (by simpa using BAre.nil)
  rw [List.size_toArray, hI.1]
  exact this
end Mine

/-! part C4 -/
namespace Mine
open PySem PySem.W PyProof.Rows PySem.Calls
set_option maxRecDepth 100000
set_option maxHeartbeats 8000000

theorem and_yes {P : Prop} {inst : Decidable P} {a y : Bool} (h : a = (decide P && y)) (hp : P) : a = y := by rw [h, decide_eq_true hp, Bool.true_and]
theorem and_no {P : Prop} {inst : Decidable P} {a y : Bool} (h : a = (decide P && y)) (hp : ¬ P) : a = decide P := by rw [h, decide_eq_false hp, Bool.false_and]
local macro_rules | `(tactic| walk_at "subscriptTail Name Name ref int") => `(tactic| (k_here; (with_reducible show wpAny _ _ (subscriptTail _ _ (Value.ref _) (Value.int _ _)) _ _ _); k_dflt (refine' item_at ?k1 ?k2 ?k3 ?k4 ?k5 ?_; (case k1 => k_asm); (case k2 => k_mem); (case k3 => assumption); (case k4 => assumption); (case k5 => assumption))))
local macro_rules | `(tactic| walk_at "compareOp Eq bytes bytes") => `(tactic| (k_here; (refine eq_bytes' ?_)))
local macro_rules | `(tactic| walk_at "compareOp Eq ref ref") => `(tactic| (k_here; k_dflt (first
  | (refine' eq_lists6 ?k1 ?k2 ?k3 ?k4 ?_; (case k1 => k_asm); (case k2 => k_mem); (case k3 => k_mem); (case k4 => k_units))
  | (refine' eq_lists3 ?k1 ?k2 ?k3 ?k4 ?_; (case k1 => k_asm); (case k2 => k_mem); (case k3 => k_mem); (case k4 => k_units)))))
local macro_rules | `(tactic| walk_at "compareOp In ref ref") => `(tactic| (k_here; k_dflt (refine' in_pairs ?k1 ?k2 ?k3 ?k4 ?k5 ?k6 ?k7 ?k8 ?k9 ?_; (case k1 => k_asm); (case k2 => k_mem); (case k5 => k_mem); (case k3 => k_mem); (case k4 => k_mem); (case k6 => k_ne); (case k7 => k_ne); (case k8 => k_ne); (case k9 => k_units))))
local macro_rules | `(tactic| walk_at "compareOp NotEq bool bool") => `(tactic| (k_here; k_dflt (refine ne_same ?kk ?_; (case kk => first | assumption | exact and_yes (by assumption) (by assumption) | exact and_no (by assumption) (by assumption)))))

theorem inner_turn {w : World} {h₀ : Heap} {p : Program} {loose : List Str} {mean : ExcName → Option Value} {mg mb : Str → Option Value} {L fa H Dk Db rj rk nH nj nk' : Nat} {cd : Value} {m : Str → Option Value} {s : Shared} {Q : Flow → Shared → Prop} {E : Value → Shared → Prop}
  {rest : List (Addr × Obj)} {g o : Hand} {vs ys zs : List Value} {j k : Int} {tj tk : Tok} {u1 u2 u3 u4 t0 t1 t2 t3 t4 t5 v0 v1 v2 v3 v4 v5 : Tok}
  (hmj : m (Str.ofString "j") = some (.int j tj)) (hmk : m (Str.ofString "k") = some (.int k tk)) (hmH : m (Str.ofString "hands") = some (.ref H)) (hmK : m (Str.ofString "keys") = some (.ref Dk)) (hmB : m (Str.ofString "both") = some (.ref Db))
  (hj0 : 0 ≤ j) (hj1 : j < 2 ^ 63) (hk0 : 0 ≤ k) (hk1 : k < 2 ^ 63)
  (hvj : vs[j.toNat]? = some (.ref rj)) (hvk : vs[k.toNat]? = some (.ref rk)) (hyj : ys[j.toNat]? = some (.bytes g.key u1)) (hyk : ys[k.toNat]? = some (.bytes o.key u2)) (hzj : zs[j.toNat]? = some (.bytes g.sym u3)) (hzk : zs[k.toNat]? = some (.bytes o.sym u4))
  (hK : decide (g.key = o.key) = decide ([g.pw, g.a, g.b, g.x, g.y, g.k] = [o.pw, o.a, o.b, o.x, o.y, o.k]))
  (hS : decide (g.sym = o.sym) = (decide ([g.pw, g.a, g.k] = [o.pw, o.a, o.k]) && (decide ([o.x, o.y] = [g.x, g.y]) || decide ([o.y, o.x] = [g.x, g.y]))))
  (h : ∀ h' tk' m', (∀ z, z ≠ Str.ofString "one" → z ≠ Str.ofString "other" → z ≠ Str.ofString "alike" → z ≠ Str.ofString "same" → m' z = m z) → Fr h₀ L h' m' → News h₀ L h' rest → Q .next { s with heap := h', toks := tk' }) :
  (hd.heap_39 w.params).In h₀ → Top p loose mean mg mb h₀ → Below callerA h₀ [] h₀ → Fr h₀ L s.heap m →
  News h₀ L s.heap ((H, PySem.W.listOf vs.toArray nH) :: (Dk, LCg.lst ys) :: (Db, LCg.lst zs) :: (rj, PySem.W.listOf #[.bytes g.pw t0, .bytes g.a t1, .bytes g.b t2, .bytes g.x t3, .bytes g.y t4, .bytes g.k t5] nj) :: (rk, PySem.W.listOf #[.bytes o.pw v0, .bytes o.a v1, .bytes o.b v2, .bytes o.x v3, .bytes o.y v4, .bytes o.k v5] nk') :: rest) →
    wpAny (model ol.row.prog w) (callerA.deeper (lawEnv L fa cd)) (execs innerBody (lawEnv L fa cd)) Q E s := by
  k_fill
  w_top off
  obtain ⟨m₀, hm₀⟩ : ∃ m₀ : Str → Option Value, m = fun y => if y = Str.ofString "hands" then some (.ref H) else if y = Str.ofString "keys" then some (.ref Dk) else if y = Str.ofString "both" then some (.ref Db) else if y = Str.ofString "j" then some (.int j tj) else if y = Str.ofString "k" then some (.int k tk) else m₀ y := by
    refine ⟨m, funext fun y => ?_⟩
    repeat' split
    all_goals simp_all
  subst hm₀
  have he : innerBody = innerBody := rfl
  conv at he => rhs; whnf
  rw [he]
  have he3 : lawScope = lawScope := rfl
  conv at he3 => rhs; whnf
  unfold lawEnv
  rw [he3]
  clear he he3
  intro KX T B F N
  repeat' (first | (k_unfold; (try dsimp only)) | walk1 | (dsimp only; walk1))
  all_goals (
    rename News _ _ _ _ => N9
    refine h _ _ _ (fun z h1 h2 h3 h4 => ?_) (by assumption) (fun q hq => N9 q (by repeat (first | exact hq | apply List.Mem.tail)))
    simp only [if_neg h1, if_neg h2, if_neg h3, if_neg h4])
end Mine

/-! part C5 -/
namespace Mine
open PySem PySem.W PyProof.Rows PySem.Calls
set_option maxRecDepth 100000
set_option maxHeartbeats 8000000

/-- the names that the two loops at the end store -/
def loopName (z : Str) : Bool := z == Str.ofString "j" || z == Str.ofString "k" || z == Str.ofString "one" || z == Str.ofString "other" || z == Str.ofString "alike" || z == Str.ofString "same"

def innerName (z : Str) : Bool := z == Str.ofString "k" || z == Str.ofString "one" || z == Str.ofString "other" || z == Str.ofString "alike" || z == Str.ofString "same"
theorem innerName_of {z : Str} (h : loopName z = false) : innerName z = false := by
  simp only [loopName, innerName, Bool.or_eq_false_iff] at h ⊢
  exact ⟨⟨⟨⟨h.1.1.1.1.2, h.1.1.1.2⟩, h.1.1.2⟩, h.1.2⟩, h.2⟩
theorem size_nat (n : Nat) : Builtin.Range.rangeSize 0 (n : Int) 1 = (n : Int) := by
  unfold Builtin.Range.rangeSize
  rw [if_pos (by decide)]
  split <;> omega
theorem small_lt {n : Nat} (h : n ≤ 100) : Builtin.Range.small 0 (n : Int) 1 = true := small_one (by decide) (by decide) (by omega) (by omega)
/-- what the two loops read -/
structure Ready (m : Str → Option Value) (news : List (Addr × Obj)) (hs : List Hand) : Prop where
  all : ∃ (H nH Dk Db : Nat) (vs ys zs : List Value), m (Str.ofString "hands") = some (.ref H) ∧ m (Str.ofString "keys") = some (.ref Dk) ∧ m (Str.ofString "both") = some (.ref Db) ∧
    (H, PySem.W.listOf vs.toArray nH) ∈ news ∧ (Dk, LCg.lst ys) ∈ news ∧ (Db, LCg.lst zs) ∈ news ∧ HandsIn news vs hs ∧ BAre ys (hs.map Hand.key) ∧ BAre zs (hs.map Hand.sym)
theorem Ready.keep {m m' : Str → Option Value} {news : List (Addr × Obj)} {hs : List Hand} (R : Ready m news hs) (h : ∀ z, loopName z = false → m' z = m z) : Ready m' news hs := by
  obtain ⟨H, nH, Dk, Db, vs, ys, zs, h1, h2, h3, r⟩ := R.all
  exact ⟨H, nH, Dk, Db, vs, ys, zs, (h _ (by decide)).trans h1, (h _ (by decide)).trans h2, (h _ (by decide)).trans h3, r⟩

theorem exec_inner {w : World} {h₀ : Heap} {p : Program} {loose : List Str} {mean : ExcName → Option Value} {mg mb : Str → Option Value} {L fa : Nat} {cd : Value} {m : Str → Option Value} {s : Shared} {Q : Flow → Shared → Prop}
  {news : List (Addr × Obj)} {hs : List Hand} {j : Nat} {tj : Tok}
  (R : Ready m news hs) (hok : ∀ g ∈ hs, g.Ok 2000) (hlen : hs.length ≤ 100) (hmj : m (Str.ofString "j") = some (.int (j : Int) tj)) (hj : j < hs.length)
  (h : ∀ h' tk' m', (∀ z, loopName z = false → m' z = m z) → Fr h₀ L h' m' → News h₀ L h' news → Q .next { s with heap := h', toks := tk' }) :
  (hd.heap_39 w.params).In h₀ → Top p loose mean mg mb h₀ → Below callerA h₀ [] h₀ → Fr h₀ L s.heap m → News h₀ L s.heap news →
    wpAny (model ol.row.prog w) (callerA.deeper (lawEnv L fa cd)) (exec (outerBody.getD 0 (.Pass ⟨0, 0, 0, 0⟩)) (lawEnv L fa cd)) Q (fun _ _ => False) s := by
  k_fill
  w_top off
  obtain ⟨m₀, hm₀⟩ : ∃ m₀ : Str → Option Value, m = fun y => if y = Str.ofString "j" then some (.int (j : Int) tj) else m₀ y := by
    refine ⟨m, funext fun y => ?_⟩
    repeat' split
    all_goals simp_all
  subst hm₀
  have he : outerBody.getD 0 (.Pass ⟨0, 0, 0, 0⟩) = outerBody.getD 0 (.Pass ⟨0, 0, 0, 0⟩) := rfl
  conv at he => rhs; whnf
  rw [he]
  clear he
  intro KX T B F N
  refine For_invVF F rfl rfl ?_ (fun _ => rfl) PassesOwn.never
  have he3 : lawScope = lawScope := rfl
  conv at he3 => rhs; whnf
  have he4 : lawEnv L fa cd = envOf (Str.ofString "law") lawScope L fa cd := rfl
  rw [he3] at he4
  rw [he4]
  iterate 6 walk1
  rw [← he4]
  refine range1_rows F N fun h' tk t1 u1 v1 hr F' N' hk => ?_
  obtain ⟨H, nH, Dk, Db, vs, ys, zs, r1, r2, r3, r4, r5, r6, r7, r8, r9⟩ := R.all
  refine iter_rangeS (σ := Unit) (n := j) (fun _ m₁ nx => nx = news ∧ ∀ z, innerName z = false → m₁ z = (if z = Str.ofString "j" then some (Value.int (j : Int) tj) else m₀ z)) (fun _ _ => ()) () rfl hr (small_lt (by omega)) (size_nat j) F' N' ⟨rfl, fun _ _ => rfl⟩ ?_ ?_
  · rintro k t ⟨⟩ m₁ nx h'' tk' own hk' ho ⟨rfl, hm₁⟩ F₁ N₁
    have hb := mem_rangeKs hk'
    have hkl : k.toNat < hs.length := by omega
    obtain ⟨vj, hvj, rj, nj, a0, a1, a2, a3, a4, a5, rfl, hrj⟩ := r7.2 j _ (List.getElem?_eq_getElem hj)
    obtain ⟨vk, hvk, rk, nk, c0, c1, c2, c3, c4, c5, rfl, hrk⟩ := r7.2 k.toNat _ (List.getElem?_eq_getElem hkl)
    obtain ⟨u1, hyj⟩ := r8.get (i := j) (b := hs[j].key) (by rw [List.getElem?_map, List.getElem?_eq_getElem hj]; rfl)
    obtain ⟨u2, hyk⟩ := r8.get (i := k.toNat) (b := hs[k.toNat].key) (by rw [List.getElem?_map, List.getElem?_eq_getElem hkl]; rfl)
    obtain ⟨u3, hzj⟩ := r9.get (i := j) (b := hs[j].sym) (by rw [List.getElem?_map, List.getElem?_eq_getElem hj]; rfl)
    obtain ⟨u4, hzk⟩ := r9.get (i := k.toNat) (b := hs[k.toNat].sym) (by rw [List.getElem?_map, List.getElem?_eq_getElem hkl]; rfl)
    have gj := hok _ (List.getElem_mem hj)
    have gk := hok _ (List.getElem_mem hkl)
    refine inner_turn (g := hs[j]) (o := hs[k.toNat]) (rest := nx ++ own) (j := (j : Int)) (k := k) (tj := tj) (tk := t) (H := H) (Dk := Dk) (Db := Db) (rj := rj) (rk := rk) (vs := vs) (ys := ys) (zs := zs) (nH := nH) (nj := nj) (nk' := nk) (t0 := a0) (t1 := a1) (t2 := a2) (t3 := a3) (t4 := a4) (t5 := a5) (v0 := c0) (v1 := c1) (v2 := c2) (v3 := c3) (v4 := c4) (v5 := c5)
      ?_ ?_ ?_ ?_ ?_ (by omega) (by omega) (by omega) (by omega) hvj hvk hyj hyk hzj hzk (key_eq gj gk) (sym_eq gj gk) (fun h3 tk3 m3 hm3 F3 N3 => ?_) KX T B F₁ ?_
    · rw [if_neg (by decide), hm₁ _ (by decide), if_pos rfl]
    · rw [if_pos rfl]
    · rw [if_neg (by decide), hm₁ _ (by decide)]; exact r1
    · rw [if_neg (by decide), hm₁ _ (by decide)]; exact r2
    · rw [if_neg (by decide), hm₁ _ (by decide)]; exact r3
    · refine InvEndN.intro F3 N3 ⟨rfl, fun z hz => ?_⟩ rfl (fun q hq => List.mem_append_left _ hq) (fun q hq => List.mem_append_right _ hq)
      have hz' := hz
      simp only [innerName, Bool.or_eq_false_iff, beq_eq_false_iff_ne] at hz'
      obtain ⟨⟨⟨⟨z1, z2⟩, z3⟩, z4⟩, z5⟩ := hz'
      rw [hm3 z z2 z3 z4 z5, if_neg z1]
      exact hm₁ z hz
    · intro q hq
      rcases List.mem_cons.mp hq with rfl | hq
      · exact N₁ _ (List.mem_append_left _ r4)
      rcases List.mem_cons.mp hq with rfl | hq
      · exact N₁ _ (List.mem_append_left _ r5)
      rcases List.mem_cons.mp hq with rfl | hq
      · exact N₁ _ (List.mem_append_left _ r6)
      rcases List.mem_cons.mp hq with rfl | hq
      · exact N₁ _ (List.mem_append_left _ hrj)
      rcases List.mem_cons.mp hq with rfl | hq
      · exact N₁ _ (List.mem_append_left _ hrk)
      exact N₁ q hq
  · rintro m₁ nx h'' tk' ⟨rfl, hm₁⟩ F₁ N₁
    exact h h'' tk' m₁ (fun z hz => hm₁ z (innerName_of hz)) F₁ N₁
theorem exec_pairs {w : World} {h₀ : Heap} {p : Program} {loose : List Str} {mean : ExcName → Option Value} {mg mb : Str → Option Value} {L fa : Nat} {cd : Value} {m : Str → Option Value} {s : Shared} {Q : Flow → Shared → Prop}
  {news : List (Addr × Obj)} {hs : List Hand}
  (R : Ready m news hs) (hok : ∀ g ∈ hs, g.Ok 2000) (hlen : hs.length = 9)
  (h : ∀ h' tk' m', Fr h₀ L h' m' → News h₀ L h' news → Q .next { s with heap := h', toks := tk' }) :
  (hd.heap_39 w.params).In h₀ → Top p loose mean mg mb h₀ → Below callerA h₀ [] h₀ → Fr h₀ L s.heap m → News h₀ L s.heap news →
    wpAny (model ol.row.prog w) (callerA.deeper (lawEnv L fa cd)) (exec (stAt 8) (lawEnv L fa cd)) Q (fun _ _ => False) s := by
  k_fill
  w_top off
  have he : stAt 8 = stAt 8 := rfl
  conv at he => rhs; whnf
  rw [he]
  clear he
  intro KX T B F N
  refine For_invVF F rfl rfl ?_ (fun _ => rfl) PassesOwn.never
  have he3 : lawScope = lawScope := rfl
  conv at he3 => rhs; whnf
  have he4 : lawEnv L fa cd = envOf (Str.ofString "law") lawScope L fa cd := rfl
  rw [he3] at he4
  rw [he4]
  iterate 6 walk1
  rw [← he4]
  refine range1_rows F N fun h' tk t1 u1 v1 hr F' N' hk => ?_
  refine iter_rangeS (σ := Unit) (n := 9) (fun _ m₁ nx => nx = news ∧ ∀ z, loopName z = false → m₁ z = m z) (fun _ _ => ()) () rfl hr (small_lt (n := 9) (by omega)) (size_nat 9) F' N' ⟨rfl, fun _ _ => rfl⟩ ?_ ?_
  · rintro j t ⟨⟩ m₁ nx h'' tk' own hj' ho ⟨rfl, hm₁⟩ F₁ N₁
    have hb := mem_rangeKs hj'
    obtain ⟨i, rfl⟩ := Int.eq_ofNat_of_zero_le hb.1
    have hi : i < hs.length := by omega
    refine wpAny_execs_cons ?_
    have R' : Ready (fun y => if y = Str.ofString "j" then some (Value.int (i : Int) t) else m₁ y) (nx ++ own) hs := by
      obtain ⟨H, nH, Dk, Db, vs, ys, zs, r1, r2, r3, r4, r5, r6, r7, r8, r9⟩ := R.all
      exact ⟨H, nH, Dk, Db, vs, ys, zs, by rw [if_neg (by decide), hm₁ _ (by decide)]; exact r1, by rw [if_neg (by decide), hm₁ _ (by decide)]; exact r2, by rw [if_neg (by decide), hm₁ _ (by decide)]; exact r3,
        List.mem_append_left _ r4, List.mem_append_left _ r5, List.mem_append_left _ r6, r7.mono fun q hq => List.mem_append_left _ hq, r8, r9⟩
    refine exec_inner (j := i) (tj := t) R' hok (by omega) (by rw [if_pos rfl]) hi (fun h3 tk3 m3 hm3 F3 N3 => ?_) KX T B F₁ N₁
    refine wpAny_execs_nil ?_
    refine InvEndN.intro F3 N3 ⟨rfl, fun z hz => ?_⟩ rfl (fun q hq => List.mem_append_left _ hq) (fun q hq => List.mem_append_right _ hq)
    have hz' := hz
    simp only [loopName, Bool.or_eq_false_iff, beq_eq_false_iff_ne] at hz'
    rw [hm3 z hz, if_neg hz'.1.1.1.1.1]
    exact hm₁ z hz
  · rintro m₁ nx h'' tk' ⟨rfl, hm₁⟩ F₁ N₁
    exact h h'' tk' m₁ F₁ N₁
end Mine

/-! part C6 -/
namespace Mine
open PySem PySem.W PyProof.Rows PySem.Calls
set_option maxRecDepth 100000
set_option maxHeartbeats 8000000

local macro_rules | `(tactic| walk_at "subscriptTail Name Slice ref ref") => `(tactic| (k_here; (with_reducible show wpAny _ _ (subscriptTail _ (PySem.Expr.Slice none (some _) none _) (Value.ref _) (Value.ref _)) _ _ _); k_dflt (refine' kmk_slice_ints ?F ?N ?l ?p ?q ?i ?m ?c ?_ ?s ?t ?z; (case F => k_asm); (case N => k_asm); (case l => kmk_list); (case p => kmk_part); (case q => kmk_part); (case i => l_ints); (case m => exact kmk_upto (by l_ints) (by decide)); (case c => kmk_len); (case s => with_unfolding_all rfl); (case t => kmk_pure); (case z => (refine kmk_sz (by l_ints) ?_; rw [sizeLine_eq]; (try simp only [List.length_cons, List.length_nil]); omega))); intro D' ws' h' F' N' l1 hI' hC' hL'; (try simp only [Int.reduceNeg, Int.neg_neg, Int.reduceToNat] at hI' hC' hL'); (try k_lt l1); (try k_sweep)))
local macro_rules | `(tactic| walk_at "subscriptTail Name Slice ref ref") => `(tactic| (k_here; (with_reducible show wpAny _ _ (subscriptTail _ (PySem.Expr.Slice (some _) (some _) none _) (Value.ref _) (Value.ref _)) _ _ _); k_dflt (refine' kmk_slice_ints ?F ?N ?l ?p ?q ?i ?m ?c ?_ ?s ?t ?z; (case F => k_asm); (case N => k_asm); (case l => kmk_list); (case p => kmk_part); (case q => kmk_part); (case i => l_ints); (case m => exact kmk_run (by l_ints) (by decide) (by decide)); (case c => kmk_len); (case s => with_unfolding_all rfl); (case t => kmk_pure); (case z => (refine kmk_sz (by l_ints) ?_; rw [sizeLine_eq]; (try simp only [List.length_cons, List.length_nil]); omega))); intro D' ws' h' F' N' l1 hI' hC' hL'; (try simp only [Int.reduceNeg, Int.neg_neg, Int.reduceToNat] at hI' hC' hL'); (try k_lt l1); (try k_sweep)))
local macro_rules | `(tactic| walk_at "subscriptTail Name Slice ref ref") => `(tactic| (k_here; (with_reducible show wpAny _ _ (subscriptTail _ (PySem.Expr.Slice (some _) none none _) (Value.ref _) (Value.ref _)) _ _ _); k_dflt (refine' kmk_slice_ints ?F ?N ?l ?p ?q ?i ?m ?c ?_ ?s ?t ?z; (case F => k_asm); (case N => k_asm); (case l => kmk_list); (case p => kmk_part); (case q => kmk_part); (case i => l_ints); (case m => exact kmk_from (by l_ints) (by (split <;> omega))); (case c => kmk_len); (case s => with_unfolding_all rfl); (case t => kmk_pure); (case z => (refine kmk_sz (by l_ints) ?_; rw [sizeLine_eq]; (try simp only [List.length_cons, List.length_nil]); omega))); intro D' ws' h' F' N' l1 hI' hC' hL'; (try simp only [Int.reduceNeg, Int.neg_neg, Int.reduceToNat] at hI' hC' hL'); (try k_lt l1); (try k_sweep)))
theorem exec_numbers {w : World} {h₀ : Heap} {p : Program} {loose : List Str} {mean : ExcName → Option Value} {mg mb : Str → Option Value} {L fa S : Nat} {cd : Value} {m₀ : Str → Option Value} {s : Shared} {Q : Flow → Shared → Prop} {E : Value → Shared → Prop} {vs : List Value} {ns : List Int}
  (hL : h₀.IsList S vs.toArray) (hI : IntsAre vs ns) (h63 : ns.length ≤ 63)
  (h : ∀ h' tk' D vs' ns' n, IntsAre vs' ns' → ns'.length = 9 → Fr h₀ L h' (fun y => if y = Str.ofString "numbers" then some (.ref D) else if y = Str.ofString "script" then some (.ref S) else m₀ y) → News h₀ L h' [(D, PySem.W.listOf vs'.toArray n)] → Q .next { s with heap := h', toks := tk' }) :
  (hd.heap_39 w.params).In h₀ → Top p loose mean mg mb h₀ → Below callerA h₀ [] h₀ → Fr h₀ L s.heap (fun y => if y = Str.ofString "script" then some (.ref S) else m₀ y) → News h₀ L s.heap [] →
    wpAny (model ol.row.prog w) (callerA.deeper (lawEnv L fa cd)) (exec (stAt 0) (lawEnv L fa cd)) Q E s := by
  k_fill
  w_top off
  have he : stAt 0 = stAt 0 := rfl
  conv at he => rhs; whnf
  rw [he]
  have he3 : lawScope = lawScope := rfl
  conv at he3 => rhs; whnf
  unfold lawEnv
  rw [he3]
  clear he he3
  intro KX T B F N
  repeat' (first | (k_unfold; (try dsimp only)) | walk1 | (dsimp only; walk1))
  rename News _ _ _ _ => N9
  refine h _ _ _ _ _ _ (by assumption) ?_ (by assumption) (fun q hq => N9 q (by rw [List.mem_singleton.mp hq]; exact List.mem_cons_self))
  rw [List.length_append, List.length_take, List.length_drop]
  simp only [List.length_cons, List.length_nil]
  split <;> omega

theorem item_K {K : Frag} {h₀ : Heap} {L l n : Nat} {m : Str → Option Value} {prog : Program} {w : World} {A : Around} {E : Value → Shared → Prop} {s : Shared} {its : Array Value} {P : Array UInt8 → Prop} {value slice : PySem.Expr} {k : Int} {u : Tok} {Q : Value → Shared → Prop}
    (X : K.In h₀) (F : Fr h₀ L s.heap m) (hl : K.lookup l = some { cls := .type "list", data := .seq its n }) (h0 : 0 ≤ k) (h5 : k < 5) (hit : ∀ i, i < 5 → ∃ b t, its[i]? = some (.bytes b t) ∧ P b)
    (hs : subscripted slice false (.ref l) (.int k u) = operate [.ref l, .int k u] (getItem (.ref l) (.int k u)))
    (h : ∀ b t, P b → Q (.bytes b t) s) : wpAny (model prog w) A (subscriptTail value slice (.ref l) (.int k u)) Q E s := by
  have ho : s.heap.get? l = some { cls := .type "list", data := .seq its n } := F.keep _ _ (X _ _ hl)
  have hL : s.heap.IsList l its := ⟨_, ho, rfl, _, rfl⟩
  obtain ⟨b, t, e, hp⟩ := hit k.toNat (by omega)
  exact tail_any hL.typeIs PySem.F.slot_list_getitem.lookup (wpAny_getItem_list hL h0 (by omega) e (h b t hp)) hs
theorem item_text {w : World} {h₀ : Heap} {L : Nat} {m : Str → Option Value} {prog : Program} {A : Around} {E : Value → Shared → Prop} {s : Shared} {value slice : PySem.Expr} {k : Int} {u : Tok} {Q : Value → Shared → Prop}
    (X : (hd.heap_39 w.params).In h₀) (F : Fr h₀ L s.heap m) (h0 : 0 ≤ k) (h5 : k < 5)
    (hs : subscripted slice false (.ref 71) (.int k u) = operate [.ref 71, .int k u] (getItem (.ref 71) (.int k u)))
    (h : ∀ b t, b.size ≤ 5 → Q (.bytes b t) s) : wpAny (model prog w) A (subscriptTail value slice (.ref 71) (.int k u)) Q E s := by
  refine item_K (P := fun b => b.size ≤ 5) X F rfl h0 h5 (fun i hi => ?_) hs h
  match i, hi with
  | 0, _ => exact ⟨_, _, rfl, by decide⟩
  | 1, _ => exact ⟨_, _, rfl, by decide⟩
  | 2, _ => exact ⟨_, _, rfl, by decide⟩
  | 3, _ => exact ⟨_, _, rfl, by decide⟩
  | 4, _ => exact ⟨_, _, rfl, by decide⟩
theorem item_message {w : World} {h₀ : Heap} {L : Nat} {m : Str → Option Value} {prog : Program} {A : Around} {E : Value → Shared → Prop} {s : Shared} {value slice : PySem.Expr} {k : Int} {u : Tok} {Q : Value → Shared → Prop}
    (X : (hd.heap_39 w.params).In h₀) (F : Fr h₀ L s.heap m) (h0 : 0 ≤ k) (h5 : k < 5)
    (hs : subscripted slice false (.ref 72) (.int k u) = operate [.ref 72, .int k u] (getItem (.ref 72) (.int k u)))
    (h : ∀ b t, b.size = 2 → Q (.bytes b t) s) : wpAny (model prog w) A (subscriptTail value slice (.ref 72) (.int k u)) Q E s := by
  refine item_K (P := fun b => b.size = 2) X F rfl h0 h5 (fun i hi => ?_) hs h
  match i, hi with
  | 0, _ => exact ⟨_, _, rfl, by decide⟩
  | 1, _ => exact ⟨_, _, rfl, by decide⟩
  | 2, _ => exact ⟨_, _, rfl, by decide⟩
  | 3, _ => exact ⟨_, _, rfl, by decide⟩
  | 4, _ => exact ⟨_, _, rfl, by decide⟩

theorem exec_first {w : World} {h₀ : Heap} {p : Program} {loose : List Str} {mean : ExcName → Option Value} {mg mb : Str → Option Value} {L fa D n : Nat} {cd : Value} {m₀ : Str → Option Value} {s : Shared} {Q : Flow → Shared → Prop} {E : Value → Shared → Prop} {vs : List Value} {ns : List Int}
  (hI : IntsAre vs ns) (h9 : ns.length = 9)
  (h : ∀ h' tk' i t, Fr h₀ L h' (fun y => if y = Str.ofString "first" then some (.int i t) else if y = Str.ofString "numbers" then some (.ref D) else m₀ y) → News h₀ L h' [(D, PySem.W.listOf vs.toArray n)] → Q .next { s with heap := h', toks := tk' }) :
  (hd.heap_39 w.params).In h₀ → Top p loose mean mg mb h₀ → Below callerA h₀ [] h₀ → Fr h₀ L s.heap (fun y => if y = Str.ofString "numbers" then some (.ref D) else m₀ y) → News h₀ L s.heap [(D, PySem.W.listOf vs.toArray n)] →
    wpAny (model ol.row.prog w) (callerA.deeper (lawEnv L fa cd)) (exec (stAt 1) (lawEnv L fa cd)) Q E s := by
  k_fill
  w_top off
  have he : stAt 1 = stAt 1 := rfl
  conv at he => rhs; whnf
  rw [he]
  have he3 : lawScope = lawScope := rfl
  conv at he3 => rhs; whnf
  unfold lawEnv
  rw [he3]
  clear he he3
  intro KX T B F N
  repeat' (first | (k_unfold; (try dsimp only)) | walk1 | (dsimp only; walk1))
  exact h _ _ _ _ (by assumption) (by assumption)

local macro_rules | `(tactic| walk_at "subscriptTail") => `(tactic| (k_here; (with_reducible show wpAny _ _ (subscriptTail _ _ (Value.ref _) (Value.int _ _)) _ _ _); k_dflt (first
  | (refine' item_text ?k1 ?k2 ?k3 ?k4 ?k5 ?_; (case k1 => k_asm); (case k2 => k_asm); (case k3 => exact fmod_lo _ (by decide)); (case k4 => exact fmod_hi _ (by decide)); (case k5 => with_unfolding_all rfl))
  | (refine' item_message ?k1 ?k2 ?k3 ?k4 ?k5 ?_; (case k1 => k_asm); (case k2 => k_asm); (case k3 => exact fmod_lo _ (by decide)); (case k4 => exact fmod_hi _ (by decide)); (case k5 => with_unfolding_all rfl))); intro b' t' hb'))

theorem news3 {h₀ h : Heap} {L : Addr} {news : List (Addr × Obj)} {p q r : Addr × Obj} (N : News h₀ L h news) (h1 : p ∈ news) (h2 : q ∈ news) (h3 : r ∈ news) : News h₀ L h [p, q, r] := fun x hx => by
  rcases List.mem_cons.mp hx with rfl | hx
  · exact N _ h1
  rcases List.mem_cons.mp hx with rfl | hx
  · exact N _ h2
  · rw [List.mem_singleton.mp hx]; exact N _ h3
theorem exec_hand {w : World} {h₀ : Heap} {p : Program} {loose : List Str} {mean : ExcName → Option Value} {mg mb : Str → Option Value} {L fa D n : Nat} {cd : Value} {m₀ : Str → Option Value} {s : Shared} {Q : Flow → Shared → Prop} {vs : List Value} {i : Int} {t : Tok} {rest : List Stmt}
  (h : ∀ (h' : Heap) (tk' : Nat) (H nH r nr : Nat) (g : Hand) (t0 t1 t2 t3 t4 t5 : Tok) (m₁ : Str → Option Value), g.Ok 5 → m₁ (Str.ofString "hands") = some (.ref H) → m₁ (Str.ofString "numbers") = some (.ref D) → H ≠ r → H ≠ D → r ≠ D → Fr h₀ L h' m₁ →
    News h₀ L h' [(H, PySem.W.listOf #[.ref r] nH), (r, PySem.W.listOf #[.bytes g.pw t0, .bytes g.a t1, .bytes g.b t2, .bytes g.x t3, .bytes g.y t4, .bytes g.k t5] nr), (D, PySem.W.listOf vs.toArray n)] → wpAny (model ol.row.prog w) (callerA.deeper (lawEnv L fa cd)) (execs rest (lawEnv L fa cd)) Q (fun _ _ => False) { s with heap := h', toks := tk' }) :
  (hd.heap_39 w.params).In h₀ → Top p loose mean mg mb h₀ → Below callerA h₀ [] h₀ → Fr h₀ L s.heap (fun y => if y = Str.ofString "first" then some (.int i t) else if y = Str.ofString "numbers" then some (.ref D) else m₀ y) → News h₀ L s.heap [(D, PySem.W.listOf vs.toArray n)] →
    wpAny (model ol.row.prog w) (callerA.deeper (lawEnv L fa cd)) (execs (stAt 2 :: stAt 3 :: stAt 4 :: rest) (lawEnv L fa cd)) Q (fun _ _ => False) s := by
  k_fill
  w_top off
  have he : stAt 2 = stAt 2 := rfl
  conv at he => rhs; whnf
  have he1 : stAt 3 = stAt 3 := rfl
  conv at he1 => rhs; whnf
  have he2 : stAt 4 = stAt 4 := rfl
  conv at he2 => rhs; whnf
  rw [he, he1, he2]
  have he3 : lawScope = lawScope := rfl
  conv at he3 => rhs; whnf
  unfold lawEnv at h ⊢
  rw [he3] at h ⊢
  clear he he1 he2 he3
  intro KX T B F N
  repeat' (first | (k_unfold; (try dsimp only)) | walk1 | (dsimp only; walk1))
  rename News _ _ _ _ => N9
  rename Fr _ _ _ _ => F9
  simp only [List.push_toArray, List.nil_append, List.cons_append] at N9
  refine h _ _ ?H ?nH ?r ?nr ⟨?b0, ?b1, ?b2, ?b3, ?b4, ?b5⟩ ?t0 ?t1 ?t2 ?t3 ?t4 ?t5 _ ?ok ?h1 ?h2 ?n1 ?n2 ?n3 F9 ?N
  case h1 => exact rfl
  case h2 => exact rfl
  case N => exact news3 N9 (by k_mem) (by k_mem) (by k_mem)
  case n1 => k_ne
  case n2 => k_ne
  case n3 => k_ne
  case ok => (refine ⟨?_, ?_, ?_, ?_, ?_, ?_⟩ <;> (dsimp only; assumption))
end Mine

/-! part C7 -/
namespace Mine
open PySem PySem.W PyProof.Rows PySem.Calls
set_option maxRecDepth 100000
set_option maxHeartbeats 40000000

section
variable {prog : Program} {w : World} {A : Around} {E : Value → Shared → Prop} {s : Shared} {h₀ : Heap} {L : Addr} {news : List (Addr × Obj)}
theorem item_last {value slice : PySem.Expr} {l : Addr} {n : Nat} {vs : List Value} {u : Tok} {v : Value} {Q : Value → Shared → Prop}
    (N : News h₀ L s.heap news) (hm : (l, PySem.W.listOf (vs ++ [v]).toArray n) ∈ news) (h : Q v s)
    (hs : subscripted slice false (.ref l) (.int (-1) u) = operate [.ref l, .int (-1) u] (getItem (.ref l) (.int (-1) u)) := by with_unfolding_all rfl) :
    wpAny (model prog w) A (subscriptTail value slice (.ref l) (.int (-1) u)) Q E s := by
  have hz : (vs ++ [v]).toArray.size = vs.length + 1 := by rw [List.size_toArray, List.length_append]; rfl
  have e : ((-1 : Int) + ((vs ++ [v]).toArray.size : Nat)).toNat = vs.length := by rw [hz]; omega
  refine tail_any (N.isList hm).typeIs PySem.F.slot_list_getitem.lookup (wpAny_getItem_list_neg (x := v) (N.isList hm) (by decide) (by rw [hz]; omega) (by decide) ?_ h) hs
  rw [e]; simp
theorem slice_b {value slice : PySem.Expr} {b : Array UInt8} {t : Tok} {m : PySem.Str → Option Value} {l u : Value} {lo hi : Option Int} {Q : Value → Shared → Prop} (hF : Fr h₀ L s.heap m) (hN : News h₀ L s.heap news) (hl : IsPart l lo) (hu : IsPart u hi) (hz : b.size ≤ 16777216)
    (h : ∀ h' b' t' k, Fr h₀ L h' m → News h₀ L h' news → b'.size ≤ b.size → Q (.bytes b' t') { s with heap := h', toks := k })
    (hs : subscripted slice false (.bytes b t) (.ref s.heap.objs.size) = operate [.ref s.heap.objs.size, .bytes b t] (getItem (.bytes b t) (.ref s.heap.objs.size)) := by with_unfolding_all rfl)
    (ht : ∀ r, letTemporaryGo value (.bytes b t) r = pure () := by intro _; with_unfolding_all rfl) :
    wpAny (model prog w) A (subscriptTail value slice (.bytes b t) (.ref s.heap.objs.size)) Q E { s with heap := s.heap.push { cls := .type "slice", data := .fields #[l, u, .none] } } :=
  KBc.slice_K hF hN rfl hl hu (by rw [KBw.ints_length]; exact hz) (fun h' t' k F N _ => h h' _ t' k F N (KBc.size_picked_le b lo hi)) hs ht
theorem mod_lit {a n c : Int} {t u : Tok} {Q : Value → Shared → Prop} (hn : n ≠ 0) (e : Int.fmod a n = c) (h : ∀ t' k, Q (.int c t') { s with toks := k }) : wpAny (model prog w) A (binaryOp .Mod (.int a t) (.int n u)) Q E s := by
  refine PyProof.Rows.mod_int' hn ?_
  rw [e]
  exact h _ _
end
theorem allLt_ne {D : Addr} : ∀ {l : List (Addr × Obj)}, AllLt D l → ∀ p ∈ l, p.1 ≠ D
  | [], _, _, hp => nomatch hp
  | q :: r, h, p, hp => by
    rcases List.mem_cons.mp hp with rfl | hp
    · exact Nat.ne_of_lt h.1
    · exact allLt_ne h.2 p hp
theorem ne2 {D : Addr} {l : List (Addr × Obj)} {a : Prop} (h : a ∧ AllLt D l) : ∀ p ∈ l, p.1 ≠ D := allLt_ne h.2
theorem ne3 {D : Addr} {l : List (Addr × Obj)} {a b : Prop} (h : a ∧ b ∧ AllLt D l) : ∀ p ∈ l, p.1 ≠ D := allLt_ne h.2.2
theorem ne4 {D : Addr} {l : List (Addr × Obj)} {a b c : Prop} (h : a ∧ b ∧ c ∧ AllLt D l) : ∀ p ∈ l, p.1 ≠ D := allLt_ne h.2.2.2
theorem ne5 {D : Addr} {l : List (Addr × Obj)} {a b c d : Prop} (h : a ∧ b ∧ c ∧ d ∧ AllLt D l) : ∀ p ∈ l, p.1 ≠ D := allLt_ne h.2.2.2.2
local macro_rules | `(tactic| k_all) => `(tactic| first | with_reducible assumption | exact ne3 (by with_reducible assumption) | exact ne4 (by with_reducible assumption) | exact ne5 (by with_reducible assumption) | exact ne2 (by with_reducible assumption) | exact allLt_ne (by with_reducible assumption))
local macro_rules | `(tactic| walk_at "call builtin:list.append") => `(tactic| (k_here; (with_reducible show wpAny _ _ (call (Value.builtin _) [Value.ref _, _]) _ _ _); k_dflt (refine' append_K ?k1 ?k2 ?k3 ?_ ?z; (case k1 => k_asm); (case k2 => k_asm); (case k3 => k_upd); (case z => (rw [sizeLine_eq]; simp only [List.size_toArray, List.length_append, List.length_cons, List.length_nil]; omega))); intro h' F' N'; (try k_sweep)))
local macro_rules | `(tactic| walk_at "subscriptTail Name UnaryOp ref int") => `(tactic| (k_here; k_dflt (refine' item_last ?k1 ?k2 ?_; (case k1 => k_asm); (case k2 => k_mem))))
local macro_rules | `(tactic| walk_at "binaryOp Mod int int") => `(tactic| (k_here; k_dflt (refine' mod_lit ?k1 ?k2 ?_; (case k1 => decide); (case k2 => assumption)); intro _ _))
local macro_rules | `(tactic| walk_at "subscriptTail") => `(tactic| (k_here; (with_reducible show wpAny _ _ (subscriptTail _ _ (Value.ref _) (Value.int _ _)) _ _ _); k_dflt (first
  | (refine' item_text ?k1 ?k2 ?k3 ?k4 ?k5 ?_; (case k1 => k_asm); (case k2 => k_asm); (case k3 => exact fmod_lo _ (by decide)); (case k4 => exact fmod_hi _ (by decide)); (case k5 => with_unfolding_all rfl))
  | (refine' item_message ?k1 ?k2 ?k3 ?k4 ?k5 ?_; (case k1 => k_asm); (case k2 => k_asm); (case k3 => exact fmod_lo _ (by decide)); (case k4 => exact fmod_hi _ (by decide)); (case k5 => with_unfolding_all rfl))); intro b' t' hb'))

local macro_rules | `(tactic| walk_at "call builtin:len") => `(tactic| (k_here; (with_reducible show wpAny _ _ (call (Value.builtin "len") [Value.bytes _ _]) _ _ _); (refine PySem.W.len_bytes ?zz ?_; (case zz => omega))))
local macro_rules | `(tactic| walk_at "subscriptTail") => `(tactic| (k_here; (with_reducible show wpAny _ _ (subscriptTail _ (PySem.Expr.Slice _ _ none _) (Value.bytes _ _) (Value.ref _)) _ _ _); (with_reducible rename Fr _ _ _ _ => F'); (with_reducible rename News _ _ _ _ => N'); k_dflt (refine slice_b (s := ⟨_, _, _, _, _⟩) F' N' (by constructor) (by constructor) (by omega) ?_); intro _ _ _ _ F' N' hbz'; (try k_sweep)))
local macro_rules | `(tactic| walk_at "binaryOp Add bytes bytes") => `(tactic| (k_here; (refine KBy.add_bytes ?zz ?_; (case zz => omega)); intro _ _))
local macro_rules | `(tactic| walk_at "subscriptTail Subscript") => `(tactic| (k_here; (with_reducible show wpAny _ _ (subscriptTail (PySem.Expr.Subscript _ _ _) (PySem.Expr.Slice _ _ none _) (Value.bytes _ _) (Value.ref _)) _ _ _); k_dflt (refine kba_turn (value' := PySem.Expr.Name (PySem.Str.ofString "_") ⟨0, 0, 0, 0⟩) (fun _ => rfl) ?_)))
theorem news4 {h₀ h : Heap} {L : Addr} {news rest : List (Addr × Obj)} {p q r : Addr × Obj} (N : News h₀ L h news) (h1 : p ∈ news) (h2 : q ∈ news) (h3 : r ∈ news) (h4 : ∀ x ∈ rest, x ∈ news) : News h₀ L h (p :: q :: r :: rest) := fun x hx => by
  rcases List.mem_cons.mp hx with rfl | hx
  · exact N _ h1
  rcases List.mem_cons.mp hx with rfl | hx
  · exact N _ h2
  rcases List.mem_cons.mp hx with rfl | hx
  · exact N _ h3
  exact N x (h4 x hx)
theorem eight (k : Int) : Int.fmod k 8 = 0 ∨ Int.fmod k 8 = 1 ∨ Int.fmod k 8 = 2 ∨ Int.fmod k 8 = 3 ∨ Int.fmod k 8 = 4 ∨ Int.fmod k 8 = 5 ∨ Int.fmod k 8 = 6 ∨ Int.fmod k 8 = 7 := by
  have h1 := fmod_lo k (n := 8) (by decide)
  have h2 := fmod_hi k (n := 8) (by decide)
  omega
theorem halves (k : Int) : Int.fmod k 2 = 0 ∨ Int.fmod k 2 = 1 := by
  have h1 := fmod_lo k (n := 2) (by decide)
  have h2 := fmod_hi k (n := 2) (by decide)
  omega
theorem turn_close {h₀ : Heap} {L H r nr : Nat} {m : Str → Option Value} {s : Shared} {Q : Flow → Shared → Prop} {rest : List (Addr × Obj)} {g : Hand} {vs : List Value} {t0 t1 t2 t3 t4 t5 : Tok} {B : Nat}
  (h : ∀ (h' : Heap) (tk' : Nat) (m' : Str → Option Value) (D nD nH' : Nat) (g' : Hand) (u0 u1 u2 u3 u4 u5 : Tok), g'.Ok (2 * B) → (∀ z, z ≠ Str.ofString "hand" → z ≠ Str.ofString "deed" → z ≠ Str.ofString "place" → z ≠ Str.ofString "cut" → z ≠ Str.ofString "moved" → m' z = m z) → D ≠ H → (∀ q ∈ rest, q.1 ≠ D) → Fr h₀ L h' m' →
    News h₀ L h' ((H, PySem.W.listOf (vs ++ [Value.ref r] ++ [Value.ref D]).toArray nH') :: (D, PySem.W.listOf #[.bytes g'.pw u0, .bytes g'.a u1, .bytes g'.b u2, .bytes g'.x u3, .bytes g'.y u4, .bytes g'.k u5] nD) ::
      (r, PySem.W.listOf #[.bytes g.pw t0, .bytes g.a t1, .bytes g.b t2, .bytes g.x t3, .bytes g.y t4, .bytes g.k t5] nr) :: rest) → Q .next { s with heap := h', toks := tk' })
  {h' : Heap} {tk' : Nat} {m' : Str → Option Value} {D nD nH' : Nat} {b0 b1 b2 b3 b4 b5 : Array UInt8} {u0 u1 u2 u3 u4 u5 : Tok} {news : List (Addr × Obj)} (F : Fr h₀ L h' m') (N : News h₀ L h' news)
  (h1 : (H, PySem.W.listOf (vs ++ [Value.ref r] ++ [Value.ref D]).toArray nH') ∈ news) (h2 : (D, PySem.W.listOf #[.bytes b0 u0, .bytes b1 u1, .bytes b2 u2, .bytes b3 u3, .bytes b4 u4, .bytes b5 u5] nD) ∈ news)
  (h3 : (r, PySem.W.listOf #[.bytes g.pw t0, .bytes g.a t1, .bytes g.b t2, .bytes g.x t3, .bytes g.y t4, .bytes g.k t5] nr) ∈ news) (h4 : ∀ x ∈ rest, x ∈ news)
  (hm : ∀ z, z ≠ Str.ofString "hand" → z ≠ Str.ofString "deed" → z ≠ Str.ofString "place" → z ≠ Str.ofString "cut" → z ≠ Str.ofString "moved" → m' z = m z) (DH : D ≠ H) (DR : ∀ q ∈ rest, q.1 ≠ D)
  (ok : b0.size ≤ 2 * B ∧ b1.size ≤ 2 * B ∧ b2.size ≤ 2 * B ∧ b5.size ≤ 2 * B ∧ b3.size = 2 ∧ b4.size = 2) : Q .next { s with heap := h', toks := tk' } :=
  h h' tk' m' D nD nH' ⟨b0, b1, b2, b3, b4, b5⟩ u0 u1 u2 u3 u4 u5 ok hm DH DR F (news4 N h1 h2 h3 h4)
theorem exec_turn {w : World} {h₀ : Heap} {p : Program} {loose : List Str} {mean : ExcName → Option Value} {mg mb : Str → Option Value} {L fa H r nH nr : Nat} {cd : Value} {m : Str → Option Value} {s : Shared} {Q : Flow → Shared → Prop}
  {rest : List (Addr × Obj)} {g : Hand} {vs : List Value} {k : Int} {tk : Tok} {t0 t1 t2 t3 t4 t5 : Tok} {B : Nat}
  (hmk : m (Str.ofString "number") = some (.int k tk)) (hmH : m (Str.ofString "hands") = some (.ref H))
  (hrH : r ≠ H) (hrest : ∀ p ∈ rest, p.1 ≠ H) (hB5 : 5 ≤ B) (hB : B ≤ 1000) (hg : g.Ok B) (hvs : vs.length ≤ 20)
  (h : ∀ (h' : Heap) (tk' : Nat) (m' : Str → Option Value) (D nD nH' : Nat) (g' : Hand) (u0 u1 u2 u3 u4 u5 : Tok), g'.Ok (2 * B) → (∀ z, z ≠ Str.ofString "hand" → z ≠ Str.ofString "deed" → z ≠ Str.ofString "place" → z ≠ Str.ofString "cut" → z ≠ Str.ofString "moved" → m' z = m z) → D ≠ H → (∀ q ∈ rest, q.1 ≠ D) → Fr h₀ L h' m' →
    News h₀ L h' ((H, PySem.W.listOf (vs ++ [Value.ref r] ++ [Value.ref D]).toArray nH') :: (D, PySem.W.listOf #[.bytes g'.pw u0, .bytes g'.a u1, .bytes g'.b u2, .bytes g'.x u3, .bytes g'.y u4, .bytes g'.k u5] nD) ::
      (r, PySem.W.listOf #[.bytes g.pw t0, .bytes g.a t1, .bytes g.b t2, .bytes g.x t3, .bytes g.y t4, .bytes g.k t5] nr) :: rest) → Q .next { s with heap := h', toks := tk' }) :
  (hd.heap_39 w.params).In h₀ → Top p loose mean mg mb h₀ → Below callerA h₀ [] h₀ → Fr h₀ L s.heap m →
  News h₀ L s.heap ((H, PySem.W.listOf (vs ++ [Value.ref r]).toArray nH) :: (r, PySem.W.listOf #[.bytes g.pw t0, .bytes g.a t1, .bytes g.b t2, .bytes g.x t3, .bytes g.y t4, .bytes g.k t5] nr) :: rest) →
    wpAny (model ol.row.prog w) (callerA.deeper (lawEnv L fa cd)) (execs turnBody (lawEnv L fa cd)) Q (fun _ _ => False) s := by
  k_fill
  w_top off
  obtain ⟨m₀, hm₀⟩ : ∃ m₀ : Str → Option Value, m = fun y => if y = Str.ofString "number" then some (.int k tk) else if y = Str.ofString "hands" then some (.ref H) else m₀ y := by
    refine ⟨m, funext fun y => ?_⟩
    repeat' split
    all_goals simp_all
  subst hm₀
  clear hmk hmH
  obtain ⟨z0, z1, z2, z5, z3, z4⟩ := hg
  have he : turnBody = turnBody := rfl
  conv at he => rhs; whnf
  rw [he]
  have he3 : lawScope = lawScope := rfl
  conv at he3 => rhs; whnf
  unfold lawEnv
  rw [he3]
  clear he he3
  intro KX T B F N
  rcases eight k with h6 | h6 | h6 | h6 | h6 | h6 | h6 | h6
  rotate_left 7
  rcases halves (Int.fdiv k 8) with h7 | h7
  all_goals (
    repeat' (first | (k_unfold; (try dsimp only)) | walk1 | (dsimp only; walk1))
    rename News _ _ _ _ => N9
    rename Fr _ _ _ _ => F9
    simp only [List.push_toArray] at N9
    exact turn_close h F9 N9 (by k_mem) (by k_mem) (by k_mem) (fun q hq => by repeat (first | exact hq | apply List.Mem.tail))
      (fun z h1 h2 h3 h4 h5 => by simp only [if_neg h1, if_neg h2, if_neg h3, if_neg h4, if_neg h5]) (by k_ne) (by k_all)
      (by (refine ⟨?_, ?_, ?_, ?_, ?_, ?_⟩ <;> ((try simp only [Array.size_append]); omega))))
end Mine

/-! part C8 -/
namespace Mine
open PySem PySem.W PyProof.Rows PySem.Calls
set_option maxRecDepth 100000
set_option maxHeartbeats 8000000

/-- between two turns: so many hands as turns and one -/
def Between (H D : Nat) (ws : List Value) (i : Nat) (m : Str → Option Value) (nx : List (Addr × Obj)) : Prop :=
  ∃ (hs : List Hand) (vs : List Value) (nH : Nat) (tl : List (Addr × Obj)), nx = (H, PySem.W.listOf vs.toArray nH) :: tl ∧ (∀ p ∈ tl, p.1 ≠ H) ∧ (D, PySem.W.listOf ws.toArray 0) ∈ tl ∧ hs.length = i + 1 ∧ HandsIn tl vs hs ∧ (∀ g ∈ hs, g.Ok (5 * 2 ^ i)) ∧ m (Str.ofString "hands") = some (.ref H)

theorem snoc_of {α : Type} {vs : List α} {i : Nat} {v : α} (h : vs.length = i + 1) (e : vs[i]? = some v) : vs = vs.take i ++ [v] := by
  have h1 : vs.take (i + 1) = vs := List.take_of_length_le (by omega)
  rw [List.take_add_one, e] at h1
  exact h1.symm
theorem Hand.Ok.le {a b : Nat} {g : Hand} (h : g.Ok a) (hab : a ≤ b) : g.Ok b := ⟨by have := h.1; omega, by have := h.2.1; omega, by have := h.2.2.1; omega, by have := h.2.2.2.1; omega, h.2.2.2.2⟩

local macro_rules | `(tactic| walk_at "subscriptTail Name Slice ref ref") => `(tactic| (k_here; (with_reducible show wpAny _ _ (subscriptTail _ (PySem.Expr.Slice (some _) (some _) none _) (Value.ref _) (Value.ref _)) _ _ _); k_dflt (refine' kmk_slice_ints ?F ?N ?l ?p ?q ?i ?m ?c ?_ ?s ?t ?z; (case F => k_asm); (case N => k_asm); (case l => kmk_list); (case p => kmk_part); (case q => kmk_part); (case i => l_ints); (case m => exact kmk_run (by l_ints) (by decide) (by decide)); (case c => kmk_len); (case s => with_unfolding_all rfl); (case t => kmk_pure); (case z => (refine kmk_sz (by l_ints) ?_; rw [sizeLine_eq]; (try simp only [List.length_cons, List.length_nil]); omega))); intro D' ws' h' F' N' l1 hI' hC' hL'; (try k_lt l1); (try k_sweep)))

theorem exec_loop {w : World} {h₀ : Heap} {p : Program} {loose : List Str} {mean : ExcName → Option Value} {mg mb : Str → Option Value} {L fa H r D nH nr n : Nat} {cd : Value} {m₀ : Str → Option Value} {s : Shared} {Q : Flow → Shared → Prop} {g : Hand} {t0 t1 t2 t3 t4 t5 : Tok} {vs : List Value} {ns : List Int}
  (hI : IntsAre vs ns) (h9 : ns.length = 9) (hg : g.Ok 5) (n1 : H ≠ r) (n2 : H ≠ D) (n3 : r ≠ D) (hmH : m₀ (Str.ofString "hands") = some (.ref H))
  (h : ∀ (h' : Heap) (tk' : Nat) (m' : Str → Option Value) (hs : List Hand) (vs' : List Value) (nH' : Nat) (news : List (Addr × Obj)), m' (Str.ofString "hands") = some (.ref H) → (H, PySem.W.listOf vs'.toArray nH') ∈ news → HandsIn news vs' hs → hs.length = 9 → (∀ g ∈ hs, g.Ok 2000) → Fr h₀ L h' m' → News h₀ L h' news → Q .next { s with heap := h', toks := tk' }) :
  (hd.heap_39 w.params).In h₀ → Top p loose mean mg mb h₀ → Below callerA h₀ [] h₀ → Fr h₀ L s.heap (fun y => if y = Str.ofString "numbers" then some (.ref D) else m₀ y) →
  News h₀ L s.heap [(H, PySem.W.listOf #[.ref r] nH), (r, PySem.W.listOf #[.bytes g.pw t0, .bytes g.a t1, .bytes g.b t2, .bytes g.x t3, .bytes g.y t4, .bytes g.k t5] nr), (D, PySem.W.listOf vs.toArray n)] →
    wpAny (model ol.row.prog w) (callerA.deeper (lawEnv L fa cd)) (exec (stAt 5) (lawEnv L fa cd)) Q (fun _ _ => False) s := by
  k_fill
  w_top off
  have he : stAt 5 = stAt 5 := rfl
  conv at he => rhs; whnf
  rw [he]
  clear he
  intro KX T B F N
  refine For_invVF F rfl rfl ?_ (fun _ => rfl) PassesOwn.never
  have he3 : lawScope = lawScope := rfl
  conv at he3 => rhs; whnf
  have he4 : lawEnv L fa cd = envOf (Str.ofString "law") lawScope L fa cd := rfl
  rw [he3] at he4
  rw [he4]
  iterate 9 walk1
  rw [← he4]
  rename IntsAre _ (List.take _ _) => hI9
  rename News _ _ _ _ => N9
  rename Fr _ _ _ _ => F9
  rename_i D' ws _ _ _ l1
  have h8 : ws.length = 8 := by rw [hI9.length, List.length_take, List.length_drop, h9]; decide
  obtain ⟨l2, l3, l4⟩ := l1
  refine kdl_iter (l := D') (vs := ws) (nn := 0) (news := (H, PySem.W.listOf [Value.ref r].toArray nH) :: [(r, PySem.W.listOf #[.bytes g.pw t0, .bytes g.a t1, .bytes g.b t2, .bytes g.x t3, .bytes g.y t4, .bytes g.k t5] nr), (D', PySem.W.listOf ws.toArray 0)]) (Between H D' ws) rfl (by simp) F9 ?_ ?_ ?_ ?_
  · intro q hq
    rcases List.mem_cons.mp hq with rfl | hq
    · exact N9 _ (List.mem_cons_of_mem _ List.mem_cons_self)
    rcases List.mem_cons.mp hq with rfl | hq
    · exact N9 _ (List.mem_cons_of_mem _ (List.mem_cons_of_mem _ List.mem_cons_self))
    · rw [List.mem_singleton.mp hq]; exact N9 _ List.mem_cons_self
  · refine ⟨[g], [Value.ref r], nH, _, rfl, ?_, List.mem_cons_of_mem _ List.mem_cons_self, rfl, ⟨rfl, fun i x hx => ?_⟩, fun x hx => ?_, ?_⟩
    · intro q hq
      rcases List.mem_cons.mp hq with rfl | hq
      · exact Ne.symm n1
      · rw [List.mem_singleton.mp hq]; exact Nat.ne_of_gt l2
    · have hi : i = 0 := by
        rcases Nat.eq_zero_or_pos i with q | q
        · exact q
        · rw [List.getElem?_eq_none (show [g].length ≤ i from q)] at hx; cases hx
      subst hi
      cases hx
      exact ⟨_, rfl, r, nr, t0, t1, t2, t3, t4, t5, rfl, List.mem_cons_self⟩
    · rw [List.mem_singleton.mp hx]; exact hg
    · show (if Str.ofString "hands" = Str.ofString "numbers" then _ else _) = _
      rw [if_neg (by decide)]; exact hmH
  · rintro i v m₁ nx h' tk own hv ho _ ⟨hs, vs', nH', tl, rfl, hoff, hDtl, hlen, hHs, hok, hm⟩ F₁ N₁
    have hi : i < 8 := by rw [← h8]; exact (List.getElem?_eq_some_iff.mp hv).1
    obtain ⟨t, hx⟩ := hI9.get i _ (List.getElem?_eq_getElem (by rw [← hI9.length, h8]; exact hi))
    have ev := Option.some.inj (hx.symm.trans hv)
    subst ev
    obtain ⟨v', hv', r', nr', u0, u1, u2, u3, u4, u5, rfl, hr'⟩ := hHs.2 i _ (List.getElem?_eq_getElem (by omega))
    have hvl : vs'.length = i + 1 := by rw [hHs.1, hlen]
    have hsn := snoc_of hvl hv'
    have hB : 5 * 2 ^ i ≤ 640 := by
      have : 2 ^ i ≤ 2 ^ 7 := Nat.pow_le_pow_right (by decide) (by omega)
      omega
    have hB5 : 5 ≤ 5 * 2 ^ i := by
      have : 1 ≤ 2 ^ i := Nat.one_le_two_pow
      omega
    have hoH : ∀ p ∈ own, p.1 ≠ H := fun p hp => ho p hp H (List.mem_map.mpr ⟨_, List.mem_cons_self, rfl⟩)
    refine exec_turn (H := H) (r := r') (nH := nH') (nr := nr') (rest := tl ++ own) (g := hs[i]'(by omega)) (vs := vs'.take i) (tk := t) (t0 := u0) (t1 := u1) (t2 := u2) (t3 := u3) (t4 := u4) (t5 := u5) (B := 5 * 2 ^ i)
      (by rw [if_pos rfl]) (by rw [if_neg (by decide)]; exact hm) (hoff _ hr') ?_ hB5 (by omega) (hok _ (List.getElem_mem _)) (by rw [List.length_take]; omega) ?_ KX T B F₁ ?_
    · intro p hp
      rcases List.mem_append.mp hp with q | q
      · exact hoff p q
      · exact hoH p q
    · intro h2 tk2 m2 E nE nH2 g' w0 w1 w2 w3 w4 w5 hg' hm2 hEH hER F2 N2
      rw [← hsn] at N2
      refine InvEndG.intro (nx := (H, PySem.W.listOf (vs' ++ [Value.ref E]).toArray nH2) :: (E, PySem.W.listOf #[.bytes g'.pw w0, .bytes g'.a w1, .bytes g'.b w2, .bytes g'.x w3, .bytes g'.y w4, .bytes g'.k w5] nE) :: tl) F2 N2 ⟨List.mem_cons_of_mem _ (List.mem_cons_of_mem _ hDtl), hs ++ [g'], vs' ++ [Value.ref E], nH2, _, rfl, ?_, List.mem_cons_of_mem _ hDtl, by rw [List.length_append, hlen]; rfl, ?_, ?_, ?_⟩ ?_ ?_ ?_
      · intro p hp
        rcases List.mem_cons.mp hp with rfl | hp
        · exact hEH
        · exact hoff p hp
      · exact (hHs.mono fun q hq => List.mem_cons_of_mem _ hq).snoc ⟨E, nE, w0, w1, w2, w3, w4, w5, rfl, List.mem_cons_self⟩
      · intro x hx
        have e2 : 5 * 2 ^ (i + 1) = 2 * (5 * 2 ^ i) := by rw [Nat.pow_succ]; omega
        rw [e2]
        rcases List.mem_append.mp hx with q | q
        · exact (hok x q).le (by omega)
        · rw [List.mem_singleton.mp q]; exact hg'
      · rw [hm2 _ (by decide) (by decide) (by decide) (by decide) (by decide), if_neg (by decide)]; exact hm
      · intro p hp b hb
        rcases List.mem_map.mp hb with ⟨q, hq, rfl⟩
        rcases List.mem_cons.mp hq with rfl | hq
        · exact hoH p hp
        rcases List.mem_cons.mp hq with rfl | hq
        · exact hER p (List.mem_append_right _ hp)
        · exact ho p hp _ (List.mem_map.mpr ⟨q, List.mem_cons_of_mem _ hq, rfl⟩)
      · intro q hq
        rcases List.mem_cons.mp hq with rfl | hq
        · exact List.mem_cons_self
        rcases List.mem_cons.mp hq with rfl | hq
        · exact List.mem_cons_of_mem _ List.mem_cons_self
        · exact List.mem_cons_of_mem _ (List.mem_cons_of_mem _ (List.mem_cons_of_mem _ (List.mem_append_left _ hq)))
      · intro q hq
        exact List.mem_cons_of_mem _ (List.mem_cons_of_mem _ (List.mem_cons_of_mem _ (List.mem_append_right _ hq)))
    · rw [← hsn]
      intro q hq
      rcases List.mem_cons.mp hq with rfl | hq
      · exact N₁ _ List.mem_cons_self
      rcases List.mem_cons.mp hq with rfl | hq
      · exact N₁ _ (List.mem_cons_of_mem _ (List.mem_append_left _ hr'))
      · exact N₁ q (List.mem_cons_of_mem _ hq)
  · rintro m₁ nx h' tk ⟨hs, vs', nH', tl, rfl, hoff, hDtl, hlen, hHs, hok, hm⟩ F₁ N₁
    refine h h' tk m₁ hs vs' nH' _ hm List.mem_cons_self (hHs.mono fun q hq => List.mem_cons_of_mem _ hq) (by rw [hlen, h8]) (fun x hx => (hok x hx).le ?_) F₁ N₁
    rw [h8]; decide
end Mine

/-! part C9 -/
namespace Mine
open PySem PySem.W PyProof.Rows PySem.Calls
set_option maxRecDepth 100000
set_option maxHeartbeats 8000000

theorem exec_law {w : World} {h₀ : Heap} {p : Program} {loose : List Str} {mean : ExcName → Option Value} {mg mb : Str → Option Value} {L fa S : Nat} {cd : Value} {m : Str → Option Value} {s : Shared} {Q : Flow → Shared → Prop} {vs : List Value} {ns : List Int}
  (hm : m (Str.ofString "script") = some (.ref S)) (hL : h₀.IsList S vs.toArray) (hI : IntsAre vs ns) (h63 : ns.length ≤ 63)
  (h : ∀ h' tk' m', Fr h₀ L h' m' → Q (.ret (.bool true)) { s with heap := h', toks := tk' })
  (KX : (hd.heap_39 w.params).In h₀) (T : Top p loose mean mg mb h₀) (B : Below callerA h₀ [] h₀) (F : Fr h₀ L s.heap m) (N : News h₀ L s.heap []) :
    wpAny (model ol.row.prog w) (callerA.deeper (lawEnv L fa cd)) (execs lawBody (lawEnv L fa cd)) Q (fun _ _ => False) s := by
  have e : lawBody = [stAt 0, stAt 1, stAt 2, stAt 3, stAt 4, stAt 5, stAt 6, stAt 7, stAt 8, stAt 9] := by with_unfolding_all rfl
  rw [e]
  have em : m = fun y => if y = Str.ofString "script" then some (.ref S) else m y := by
    funext y; split
    · rename_i q; rw [q]; exact hm
    · rfl
  rw [em] at F
  refine wpAny_execs_cons ?_
  refine exec_numbers hL hI h63 (fun h1 tk1 D ws ks n hI1 h9 F1 N1 => ?_) KX T B F N
  refine wpAny_execs_cons ?_
  refine exec_first hI1 h9 (fun h2 tk2 i t F2 N2 => ?_) KX T B F1 N1
  refine exec_hand (fun h3 tk3 H nH r nr g t0 t1 t2 t3 t4 t5 m3 hg hH hD n1 n2 n3 F3 N3 => ?_) KX T B F2 N2
  have e3 : m3 = fun y => if y = Str.ofString "numbers" then some (.ref D) else m3 y := by
    funext y; split
    · rename_i q; rw [q]; exact hD
    · rfl
  rw [e3] at F3
  refine wpAny_execs_cons ?_
  refine exec_loop hI1 h9 hg n1 n2 n3 hH (fun h4 tk4 m4 hs vs4 nH4 news hm4 hH4 hHs hlen hok F4 N4 => ?_) KX T B F3 N3
  refine wpAny_execs_cons ?_
  refine exec_keys hm4 hH4 hHs hok (by omega) (fun Dk h5 tk5 ys hys F5 N5 => ?_) KX T B F4 N4
  refine wpAny_execs_cons ?_
  refine exec_both (H := H) (by rw [if_neg (by decide)]; exact hm4) (List.mem_cons_of_mem _ hH4) (hHs.mono fun q hq => List.mem_cons_of_mem _ hq) hok (by omega) (fun Db h6 tk6 zs hzs F6 N6 => ?_) KX T B F5 N5
  refine wpAny_execs_cons ?_
  refine exec_pairs ⟨H, nH4, Dk, Db, vs4, ys, zs, ?_, ?_, ?_, List.mem_cons_of_mem _ (List.mem_cons_of_mem _ hH4), List.mem_cons_of_mem _ List.mem_cons_self, List.mem_cons_self, hHs.mono fun q hq => List.mem_cons_of_mem _ (List.mem_cons_of_mem _ hq), hys, hzs⟩ hok hlen (fun h7 tk7 m7 F7 N7 => ?_) KX T B F6 N6
  · rw [if_neg (by decide), if_neg (by decide)]; exact hm4
  · rw [if_neg (by decide), if_pos rfl]
  · rw [if_pos rfl]
  have he : stAt 9 = stAt 9 := rfl
  conv at he => rhs; whnf
  rw [he]
  refine wpAny_execs_cons ?_
  refine wpAny_Return_some ?_
  refine wpAny_Constant_bool ?_
  exact h _ _ _ F7
end Mine
open PySem PySem.W PyProof.Rows PySem.Calls
set_option maxRecDepth 100000 in
set_option maxHeartbeats 8000000 in
theorem PySem.Challenge.cw_aw0026_01_holds : PySem.Challenge.rw_aw0026_01.Holds := by
  exact Mine.hd (by
    k_go0
    rename (¬ (_ < _)) => h63
    rename Below _ _ _ _ => B9
    rename Top _ _ _ _ _ _ => T9
    rename Frag.In _ _ => X9
    rename Fr _ _ _ _ => F9
    rename News _ _ _ _ => N9
    rename Heap.IsList _ _ _ => L9
    rename IntsAre _ _ => I9
    refine wpAny_mono (Mine.exec_law rfl L9 I9 (by omega) (fun h' tk' m' F' => ?_) X9 T9 B9 F9 N9) (fun _ _ q => q) (fun _ _ e => e.elim)
    clear N9 F9 I9 L9 B9
    dsimp only
    wrow_close)
