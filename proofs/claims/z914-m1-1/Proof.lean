import JvmDerived
import JvmDerived.Pilot.@@N@@Statement
import JvmDerived.Pilot.@@N@@Code
set_option linter.unusedVariables false
set_option linter.unusedSimpArgs false
namespace Jvm.RoadKit
open Sem ClassFile Op Lib Jvm.Stand Jvm.Free Jvm.LawKit
section New
variable {p : Program} {l : Launch} {e : Env} {R : Room} {s : State} {m : MethodId} {args : Array Value} {below : List Frame} {meth : Method} {c : Code} {T : State} {locs : List Loc} {cells slots : Nat}
theorem retI (X : Stand p l e R s m args below meth c T locs cells slots) (hx : p.tables.exec = Jvm.exec) {pc : Nat} {Ls : Array Slot} {z : Int32} {rest : List Value} (hret : meth.sig.returnType = some .int) (hd : decode c.code pc = .ok (.ireturn, 1)) {fs : List Frame}
    (hl : ∀ (f : JFrame) (acts : List Action), f.method = m → f.locked = none → f.entered = [] → (doReturn e (T.setTop f) acts (some (.int z))).1 = T.setFrames fs) : Steps p.tables e below (T.setTop (mkF m pc Ls (.int z :: rest))) (T.setFrames fs) := by
  have hm' : T.vm.method? m = some meth := X.method'
  have hn : narrow .int (.int z) = .int z := rfl
  show Steps p.tables e below (T.setTop { method := m, pc := pc, locals := Ls, stack := _ :: rest, locked := none }) _
  jvm_step X.here [X.here.top, hx, hd, hm', hret, hn]
  first | (intro acts; rw [hl _ acts rfl rfl rfl]) | rw [hl _ _ rfl rfl rfl]
  exact Steps.refl _
end New
end Jvm.RoadKit
namespace Jvm.Pilot.@@N@@
open Jvm Jvm.ClassFile Sem Op Lib Jvm.Free Jvm.Stand Jvm.LawKit Jvm.RoadKit Bundle Jvm.Pilot.@@N@@.Jvm.D
/-! my own layer: all goals of a walk have one shape -/
section Own
variable {p : Program} {l : Launch} {e : Env} {R : Room} {s : State} {m : MethodId} {args : Array Value} {below : List Frame} {meth : Method} {c : Code} {T : State} {locs : List Loc} {cells slots : Nat} {Q : Option Value → Heap → List Loc → Prop} {nc ns : Nat} {A B : State}
/-- from A the method comes to its end, with Q of what it returns, of the heap and of the places written -/
def own_Go (p : Program) (e : Env) (below : List Frame) (s : State) (Q : Option Value → Heap → List Loc → Prop) (nc ns : Nat) (A : State) : Prop :=
  ∃ s₂ o, Steps p.tables e below A s₂ ∧ s₂.status = .running ∧ Ended s₂ below o ∧ ∃ v L, o = .returned v ∧ Q v s₂.heap L ∧ FrameEnd s o s₂ L nc ns
theorem own_go (k : ∀ t, Steps p.tables e below B t → Steps p.tables e below A t) (h : own_Go p e below s Q nc ns B) : own_Go p e below s Q nc ns A := by
  obtain ⟨t, o, h1, h2⟩ := h
  exact ⟨t, o, k t h1, h2⟩
theorem own_end (X : Stand p l e R s m args below meth c T locs cells slots) {v : Option Value} (hv : meth.sig.returnType = none → v = none) (hlk : meth.locks = false) (hq : Q v T.heap locs) (hc : cells ≤ nc) (hs : slots ≤ ns)
    (hst : ∀ fs, (∀ (f : JFrame) (acts : List Action), f.method = m → f.locked = none → f.entered = [] → (doReturn e (T.setTop f) acts v).1 = T.setFrames fs) → Steps p.tables e below A (T.setFrames fs)) : own_Go p e below s Q nc ns A := by
  obtain ⟨fs, hr, hrun, hended, hW, hsame⟩ := X.leave (v := v) hv hlk
  exact ⟨_, _, hst fs hr, hrun, hended, v, locs, rfl, hq, ⟨_, rfl⟩, hW, hsame.mono hc hs⟩
theorem own_wide {cells' slots' : Nat} (X : Stand p l e R s m args below meth c T locs cells slots) (hc : cells ≤ cells') (hs : slots ≤ slots') : Stand p l e R s m args below meth c T locs cells' slots' :=
  { X with same := X.same.mono hc hs }
theorem own_lrem {tb : Tables} [Ours tb] {target : State} {g : JFrame} (h : At T m c below) (hx : tb.exec = Jvm.exec) (hg : g.method = m) {x y : Int64} {rest : List Value} (hd : decode c.code g.pc = .ok (.lrem, 1)) (hs : g.stack = .long y :: .long x :: rest) (hy : y ≠ 0)
    (hr : Steps tb e below (T.setTop { g with pc := g.pc + 1, stack := .long (x % y) :: rest }) target) : Steps tb e below (T.setTop g) target :=
  XS.lrem h hx hg hd hs hy (by rw [lrem_mod]; exact hr)
end Own
section Own2
variable {Z s : State} {a0 args : Array Value} {h : Heap} {a b : Addr} {C : String} {c : Cell} {ty : FieldType}
theorem own_selP {y : MethodName} {n : Nat} (hZ : Z.Warmed39 s.vm) (wi : (Jvm.Cond.instantiable y.cls n).before a0 Z = true) (w2 : (Jvm.Cond.instanceMethod y).before a0 Z = true) (w3 : (Jvm.Cond.privateMethod y).before a0 Z = true)
    (hy : y.cls ≠ "java/lang/invoke/MethodHandle" ∧ y.cls ≠ "java/lang/invoke/VarHandle" := by decide) : (Jvm.Cond.selects y.cls y y).before args s = true := by
  have wi' : (Jvm.Cond.instantiable y.cls n).before args s = true := mvT hZ wi
  obtain ⟨c, k, h1, h2, -, h4, -⟩ := Cond.instantiable_spec wi'
  have h5 : k.isInterface = false := by
    cases hk : k.isInterface
    · rfl
    · rw [hk] at h4; simp at h4
  exact selects_self_of_private h1 h2 h5 (Cond.privateMethod_at (mvP hZ w3 (args := #[]))) (mvT hZ w2) hy
theorem own_neA {n : Nat} (F : Exa Z h a C) (wi : (Jvm.Cond.instantiable C n).before a0 Z = true) (G : ∃ c, Arr Z h b c ty) : a ≠ b := by
  obtain ⟨c, G⟩ := G
  exact ne_arr F wi G
end Own2
/-! small naturals as ints -/
theorem own_toI {n : Nat} (h : n < 2147483648) : (Int32.ofNat n).toInt = n := Int32.toInt_ofNat_of_lt h
theorem own_toN {n : Nat} (h : n < 2147483648) : (Int32.ofNat n).toNatClampNeg = n := by
  rw [Int32.toNatClampNeg, own_toI h]; omega
theorem own_one {i : Nat} : Int32.ofNat i + (1 : Int32) = Int32.ofNat (i + 1) := (Int32.ofNat_add i 1).symm
theorem own_inb {j : Int32} {n : Nat} (h0 : ¬ j < 0) (h : j < Int32.ofNat n) (hn : n < 2147483648) : ¬ j < 0 ∧ j.toNatClampNeg < n := by
  refine ⟨h0, ?_⟩
  rw [Int32.lt_iff_toInt_lt, own_toI hn] at h
  rw [Int32.lt_iff_toInt_lt] at h0
  have e0 : (0 : Int32).toInt = 0 := rfl
  rw [Int32.toNatClampNeg]; omega
theorem own_inN {i n : Nat} (h : i < n) (hn : n < 2147483648) : ¬ Int32.ofNat i < 0 ∧ (Int32.ofNat i).toNatClampNeg < n := by
  rw [own_toN (by omega), Int32.lt_iff_toInt_lt, own_toI (by omega)]
  have e0 : (0 : Int32).toInt = 0 := rfl
  omega
theorem own_ofNat_lt {i n : Nat} (h : Int32.ofNat i < Int32.ofNat n) (hn : n < 2147483648) (hi : i ≤ n) : i < n := by
  rw [Int32.lt_iff_toInt_lt, own_toI hn, own_toI (by omega)] at h; omega
theorem own_ofNat_nlt {i n : Nat} (h : ¬ Int32.ofNat i < Int32.ofNat n) (hn : n < 2147483648) (hi : i ≤ n) : n ≤ i := by
  rw [Int32.lt_iff_toInt_lt, own_toI hn, own_toI (by omega)] at h; omega
theorem own_drop (vs : List Int32) {i : Nat} (h : i < vs.length) : vs.drop i = vs.getD i 0 :: vs.drop (i + 1) := by
  rw [List.drop_eq_getElem_cons h, List.getD_eq_getElem?_getD, List.getElem?_eq_getElem h]; rfl
theorem own_ofNat_inj {i n : Nat} (h : Int32.ofNat i = Int32.ofNat n) (hn : n < 2147483648) (hi : i ≤ n) : i = n := by
  have q := congrArg Int32.toInt h
  rw [own_toI hn, own_toI (by omega)] at q; omega

/-! arrays as lists -/
section OwnIA
variable {p : Program} {l : Launch} {e : Env} {R : Room} {s : State} {m : MethodId} {args : Array Value} {below : List Frame} {meth : Method} {c : Code} {T : State} {locs : List Loc} {cells slots : Nat} {Z : State} {a0 : Array Value} {h h' : Heap} {a b : Addr} {ws : List Addr} {sl : Nat} {v : Value} {vs : List Int32}
def own_IA (Z : State) (h : Heap) (a : Addr) (vs : List Int32) : Prop := ∃ c : Cell, Arr Z h a c .int ∧ c.slots.toList = vs.map Value.int ∧ vs.length < 2147483648
theorem own_IA.lt (F : own_IA Z h a vs) : a < h.size := by obtain ⟨c, A, -⟩ := F; exact A.lt
theorem own_IA.arr (F : own_IA Z h a vs) : ∃ c, Arr Z h a c .int := by obtain ⟨c, A, -⟩ := F; exact ⟨c, A⟩
theorem own_IA.ext (F : own_IA Z h a vs) (E : Ext h h') : own_IA Z h' a vs := by obtain ⟨c, A, r⟩ := F; exact ⟨c, A.ext E, r⟩
theorem own_IA.other (F : own_IA Z h b vs) (W : Wr h h' a sl v) (q : b ≠ a) : own_IA Z h' b vs := by obtain ⟨c, A, r⟩ := F; exact ⟨c, A.other W q, r⟩
theorem own_IA.keep (F : own_IA Z h a vs) (K : Keep h h' ws) (q : a ∉ ws) : own_IA Z h' a vs := by obtain ⟨c, A, r⟩ := F; exact ⟨c, ⟨K.2.1 a c A.1 q, A.2⟩, r⟩
theorem own_IA.cong {vs' : List Int32} (F : own_IA Z h a vs) (q : vs = vs') : own_IA Z h a vs' := q ▸ F
theorem own_IA.small (F : own_IA Z h a vs) : vs.length < 2147483648 := by obtain ⟨c, A, q, r⟩ := F; exact r
theorem own_IA.new {k : ClassId} {n : Int32} (A : Arr Z h a (newA k .int n) .int) (q : ¬ n < 0) : own_IA Z h a (List.replicate n.toNatClampNeg 0) := by
  refine ⟨_, A, ?_, ?_⟩
  · simp [newA, defaultValue]
  · rw [List.length_replicate]; exact (back32 q).2
theorem own_IA_in {c : Cell} {j : Int32} (S : c.slots.toList = vs.map Value.int) (hj : ¬ j < 0 ∧ j.toNatClampNeg < vs.length) : ¬ (j < 0 ∨ c.slots.size ≤ j.toNatClampNeg) := by
  have e := congrArg List.length S
  rw [List.length_map, Array.length_toList] at e
  rintro (q | q)
  · exact hj.1 q
  · have := hj.2; omega
/-- the load -/
theorem own_ldIA (X : Stand p l e R s m args below meth c T locs cells slots) (hx : p.tables.exec = Jvm.exec) (hZ : Z.Warmed39 s.vm) (eT : T.heap = h) (A : own_IA Z h a vs) {j : Int32} (hj : ¬ j < 0 ∧ j.toNatClampNeg < vs.length)
    {g : JFrame} (hg : g.method = m) {rest : List Value} (hs : g.stack = .int j :: .ref a :: rest) (hd : decode c.code g.pc = .ok (.iaload, 1)) {target : State}
    (hr : Steps p.tables e below (T.setTop { g with pc := g.pc + 1, stack := Value.int (vs.getD j.toNatClampNeg 0) :: rest }) target) : Steps p.tables e below (T.setTop g) target := by
  obtain ⟨cl, Ar, S, -⟩ := A
  refine X.iaload hx (j := j) (v := Value.int (vs.getD j.toNatClampNeg 0)) (by rw [eT]; exact Ar.1) (State.isArrayOf_alike hZ.alike Ar.2.1) Ar.2.2 (own_IA_in S hj) ?_ (g := g) hg hs hd _ hr
  rw [← Array.getElem?_toList, S, List.getElem?_map, List.getD_eq_getElem?_getD, List.getElem?_eq_getElem hj.2]
  rfl
/-- the length -/
theorem own_lenIA (X : Stand p l e R s m args below meth c T locs cells slots) (hx : p.tables.exec = Jvm.exec) (hZ : Z.Warmed39 s.vm) (eT : T.heap = h) (A : own_IA Z h a vs)
    {g : JFrame} (hg : g.method = m) {rest : List Value} (hs : g.stack = .ref a :: rest) (hd : decode c.code g.pc = .ok (.arraylength, 1)) {target : State}
    (hr : Steps p.tables e below (T.setTop { g with pc := g.pc + 1, stack := .int (Int32.ofNat vs.length) :: rest }) target) : Steps p.tables e below (T.setTop g) target := by
  obtain ⟨cl, Ar, S, -⟩ := A
  refine X.arraylength hx (by rw [eT]; exact Ar.1) (State.isArrayOf_alike hZ.alike Ar.2.1) (g := g) hg hs hd _ ?_
  have e := congrArg List.length S
  rw [List.length_map, Array.length_toList] at e
  rw [e]; exact hr
/-- the store -/
theorem own_stIA (X : Stand p l e R s m args below meth c T locs cells slots) (hx : p.tables.exec = Jvm.exec) (hZ : Z.Warmed39 s.vm) (eT : T.heap = h) (A : own_IA Z h a vs) {j : Int32} {x : Int32} (hj : ¬ j < 0 ∧ j.toNatClampNeg < vs.length)
    {g : JFrame} (hg : g.method = m) {rest : List Value} (hs : g.stack = Value.int x :: .int j :: .ref a :: rest) (hd : decode c.code g.pc = .ok (.iastore, 1)) :
    ∃ T' h', Stand p l e R s m args below meth c T' (locs ++ [⟨a, j.toNatClampNeg⟩]) cells slots ∧ T'.heap = h' ∧ Wr h h' a j.toNatClampNeg (Value.int x) ∧ own_IA Z h' a (vs.set j.toNatClampNeg x) ∧
      ∀ target, Steps p.tables e below (T'.setTop { g with pc := g.pc + 1, stack := rest }) target → Steps p.tables e below (T.setTop g) target := by
  obtain ⟨cl, Ar, S, B⟩ := A
  obtain ⟨T', h', X', e', W', st'⟩ := stI X hx hZ eT Ar (own_IA_in S hj) (g := g) hg hs hd
  refine ⟨T', h', X', e', W', ⟨_, Ar.same W', ?_, ?_⟩, st'⟩
  · simp [Cell.setSlot, S]
  · rw [List.length_set]; exact B
theorem own_ldIAn (X : Stand p l e R s m args below meth c T locs cells slots) (hx : p.tables.exec = Jvm.exec) (hZ : Z.Warmed39 s.vm) (eT : T.heap = h) (A : own_IA Z h a vs) {i : Nat} (hi : i < vs.length)
    {g : JFrame} (hg : g.method = m) {rest : List Value} (hs : g.stack = .int (Int32.ofNat i) :: .ref a :: rest) (hd : decode c.code g.pc = .ok (.iaload, 1)) {target : State}
    (hr : Steps p.tables e below (T.setTop { g with pc := g.pc + 1, stack := Value.int (vs.getD i 0) :: rest }) target) : Steps p.tables e below (T.setTop g) target := by
  have q := A.small
  refine own_ldIA X hx hZ eT A (own_inN hi q) hg hs hd ?_
  rw [own_toN (Nat.lt_trans hi q)]; exact hr
theorem own_stIAn (X : Stand p l e R s m args below meth c T locs cells slots) (hx : p.tables.exec = Jvm.exec) (hZ : Z.Warmed39 s.vm) (eT : T.heap = h) (A : own_IA Z h a vs) {i : Nat} {x : Int32} (hi : i < vs.length)
    {g : JFrame} (hg : g.method = m) {rest : List Value} (hs : g.stack = Value.int x :: .int (Int32.ofNat i) :: .ref a :: rest) (hd : decode c.code g.pc = .ok (.iastore, 1)) :
    ∃ T' h', Stand p l e R s m args below meth c T' (locs ++ [⟨a, i⟩]) cells slots ∧ T'.heap = h' ∧ Wr h h' a i (Value.int x) ∧ own_IA Z h' a (vs.set i x) ∧
      ∀ target, Steps p.tables e below (T'.setTop { g with pc := g.pc + 1, stack := rest }) target → Steps p.tables e below (T.setTop g) target := by
  have q := A.small
  have r := own_stIA X hx hZ eT A (x := x) (own_inN hi q) hg hs hd
  rw [own_toN (Nat.lt_trans hi q)] at r
  exact r
/-- a new one -/
theorem own_newIA (X : Stand p l e R s m args below meth c T locs cells slots) (hx : p.tables.exec = Jvm.exec) (hZ : Z.Warmed39 s.vm) (w : (Jvm.Cond.arrayClass .int).before a0 Z = true) (eT : T.heap = h) {g : JFrame} (hg : g.method = m) (hd : decode c.code g.pc = .ok (.newarray .int, 2)) {n : Int32} {rest : List Value} (hs : g.stack = .int n :: rest)
    (hn : ¬ n < 0) {cap : Nat} (hcap : n.toNatClampNeg ≤ cap) (hb : cap * 8 ≤ 536870912) (hc : cells + 1 ≤ R.cells) (hl : slots + cap ≤ R.slots) :
    ∃ T' h', Stand p l e R s m args below meth c T' locs (cells + 1) (slots + cap) ∧ T'.heap = h' ∧ Ext h h' ∧ own_IA Z h' h.size (List.replicate n.toNatClampNeg 0) ∧ Exa Z h' h.size "[I" ∧
      ∀ target, Steps p.tables e below (T'.setTop { g with pc := g.pc + 2, stack := .ref h.size :: rest }) target → Steps p.tables e below (T.setTop g) target := by
  obtain ⟨T', h', k, X', e', E', A', F', st'⟩ := newPE X hx hZ (aty := .int) w eT hg hd hs hn hcap hb hc hl (ad := "[I") (by decide)
  exact ⟨T', h', X', e', E', own_IA.new A' hn, F', st'⟩
end OwnIA

def own_mg : Nat → List Int32 → List Int32 → List Int32
  | 0, _, _ => []
  | _ + 1, [], [] => []
  | f + 1, a :: as, [] => a :: own_mg f as []
  | f + 1, [], b :: bs => b :: own_mg f [] bs
  | f + 1, a :: as, b :: bs => if a < b then a :: own_mg f as (b :: bs) else b :: own_mg f (a :: as) bs
def own_pa (c v : Int32) : List Int32 := if c = (1 : Int32) then [v] else []
def own_pb (c v : Int32) : List Int32 := if c = (1 : Int32) then [] else if c < (2 : Int32) then [] else [v]
def own_pe (c v : Int32) : List Int32 := if c = 0 then [] else [v]
theorem own_pa_y {c v : Int32} (h : c = (1 : Int32)) : own_pa c v = [v] := if_pos h
theorem own_pa_n {c v : Int32} (h : ¬ c = (1 : Int32)) : own_pa c v = [] := if_neg h
theorem own_pb_a {c v : Int32} (h : c = (1 : Int32)) : own_pb c v = [] := if_pos h
theorem own_pb_n {c v : Int32} (h : ¬ c = (1 : Int32)) (h2 : c < (2 : Int32)) : own_pb c v = [] := (if_neg h).trans (if_pos h2)
theorem own_pb_y {c v : Int32} (h : ¬ c = (1 : Int32)) (h2 : ¬ c < (2 : Int32)) : own_pb c v = [v] := (if_neg h).trans (if_neg h2)
theorem own_pe_n {c v : Int32} (h : c = 0) : own_pe c v = [] := if_pos h
theorem own_pe_y {c v : Int32} (h : ¬ c = 0) : own_pe c v = [v] := if_neg h
theorem own_take_set {l : List Int32} {n : Nat} {v : Int32} (h : n < l.length) : (l.set n v).take (n + 1) = l.take n ++ [v] := by
  rw [List.take_succ_eq_append_getElem (by rw [List.length_set]; exact h), List.getElem_set_self, List.take_set_of_le (Nat.le_refl n)]
theorem own_cls {c v : Int32} (h : c = 0 ∨ c = 1 ∨ c = 2 ∨ c = 3) : (own_pa c v = [] ∧ own_pb c v = [] ∧ own_pe c v = []) ∨ (own_pa c v = [v] ∧ own_pb c v = [] ∧ own_pe c v = [v]) ∨ (own_pa c v = [] ∧ own_pb c v = [v] ∧ own_pe c v = [v]) := by
  rcases h with rfl | rfl | rfl | rfl
  · exact Or.inl ⟨rfl, rfl, rfl⟩
  · exact Or.inr (Or.inl ⟨rfl, rfl, rfl⟩)
  · exact Or.inr (Or.inr ⟨rfl, rfl, rfl⟩)
  · exact Or.inr (Or.inr ⟨rfl, rfl, rfl⟩)
theorem own_merge (c0 c1 c2 c3 v0 v1 v2 v3 : Int32) (h0 : c0 = 0 ∨ c0 = 1 ∨ c0 = 2 ∨ c0 = 3) (h1 : c1 = 0 ∨ c1 = 1 ∨ c1 = 2 ∨ c1 = 3) (h2 : c2 = 0 ∨ c2 = 1 ∨ c2 = 2 ∨ c2 = 3) (h3 : c3 = 0 ∨ c3 = 1 ∨ c3 = 2 ∨ c3 = 3)
    (l01 : v0 < v1) (l12 : v1 < v2) (l23 : v2 < v3) :
    own_mg ((own_pa c0 v0 ++ own_pa c1 v1 ++ own_pa c2 v2 ++ own_pa c3 v3).length + (own_pb c0 v0 ++ own_pb c1 v1 ++ own_pb c2 v2 ++ own_pb c3 v3).length) (own_pa c0 v0 ++ own_pa c1 v1 ++ own_pa c2 v2 ++ own_pa c3 v3) (own_pb c0 v0 ++ own_pb c1 v1 ++ own_pb c2 v2 ++ own_pb c3 v3) = own_pe c0 v0 ++ own_pe c1 v1 ++ own_pe c2 v2 ++ own_pe c3 v3 := by
  have tr : ∀ {x y z : Int32}, x < y → y < z → x < z := fun a b => by rw [Int32.lt_iff_toInt_lt] at *; omega
  have ng : ∀ {x y : Int32}, x < y → ¬ y < x := fun a b => by rw [Int32.lt_iff_toInt_lt] at *; omega
  have l02 := tr l01 l12
  have l13 := tr l12 l23
  have l03 := tr l02 l23
  have n01 := ng l01
  have n02 := ng l02
  have n03 := ng l03
  have n12 := ng l12
  have n13 := ng l13
  have n23 := ng l23
  clear tr ng
  rcases own_cls (v := v0) h0 with ⟨a, b, c⟩ | ⟨a, b, c⟩ | ⟨a, b, c⟩ <;> rw [a, b, c] <;> clear a b c <;>
  rcases own_cls (v := v1) h1 with ⟨a, b, c⟩ | ⟨a, b, c⟩ | ⟨a, b, c⟩ <;> rw [a, b, c] <;> clear a b c <;>
  rcases own_cls (v := v2) h2 with ⟨a, b, c⟩ | ⟨a, b, c⟩ | ⟨a, b, c⟩ <;> rw [a, b, c] <;> clear a b c <;>
  rcases own_cls (v := v3) h3 with ⟨a, b, c⟩ | ⟨a, b, c⟩ | ⟨a, b, c⟩ <;> rw [a, b, c] <;> clear a b c <;>
  simp only [List.nil_append, List.append_nil, List.cons_append, List.length_cons, List.length_nil, Nat.zero_add, Nat.add_zero, own_mg, l01, l02, l03, l12, l13, l23, n01, n02, n03, n12, n13, n23, if_true, if_false, Nat.reduceAdd]
theorem own_mg_nil (f : Nat) : own_mg f [] [] = [] := by cases f <;> rfl
theorem own_takes {vs : List Int32} (h : vs.length = 4) : ∃ a b c d, vs = [a, b, c, d] := by
  match vs, h with
  | [a, b, c, d], _ => exact ⟨a, b, c, d, rfl⟩

def own_min (p1 : Int32) (p2 : Int32) : Int32 := if p2 < p1 then p2 else p1
def Q_rm1 (Z : State) (p1 : Int32) (p2 : Int32) (h0 : Heap) (n0 : Nat) (v : Option Value) (h : Heap) (L : List Loc) : Prop := v = some (.int (own_min p1 p2)) ∧ Fr n0 L ∧ h = h0
theorem d1_0 : decode jdk_29_method_69_code 0 = .ok (.iload_n 0, 1) := by decide +kernel
theorem d1_1 : decode jdk_29_method_69_code 1 = .ok (.iload_n 1, 1) := by decide +kernel
theorem d1_2 : decode jdk_29_method_69_code 2 = .ok (.if_icmp .gt 7, 3) := by decide +kernel
theorem d1_5 : decode jdk_29_method_69_code 5 = .ok (.iload_n 0, 1) := by decide +kernel
theorem d1_6 : decode jdk_29_method_69_code 6 = .ok (.goto 4, 3) := by decide +kernel
theorem d1_9 : decode jdk_29_method_69_code 9 = .ok (.iload_n 1, 1) := by decide +kernel
theorem d1_10 : decode jdk_29_method_69_code 10 = .ok (.ireturn, 1) := by decide +kernel
set_option maxRecDepth 65536 in
set_option maxHeartbeats 40000000 in
theorem rm1 (l : Launch) (Z : State) (a0 : Array Value) (hw : ∀ d ∈ tables_1, d.before a0 Z = true) (ws : List Jvm.Cond) (p1 : Int32) (p2 : Int32) (h0 : Heap) (n0 : Nat) (Z0 : n0 ≤ h0.size)  :
    MetFree l (⟨"java/lang/Math", "min", "(II)I"⟩ : MethodName) (head1 (Jvm.Cond.code (⟨"java/lang/Math", "min", "(II)I"⟩ : MethodName) jdk_29_method_69_code 2 (some .int) :: ws) ({ frames := 0, cells := 0, slots := 0, locals := 0 } : Room)) (fun aa U => aa = #[(.int p1), (.int p2)] ∧ Z.Warmed39 U.vm ∧ U.heap = h0) (fun _ _ _ _ _ => True) (fun _ U o U' => ∃ v L, o = .returned v ∧ Q_rm1 Z p1 p2 h0 n0 v U'.heap L ∧ FrameEnd U o U' L ({ frames := 0, cells := 0, slots := 0, locals := 0 } : Room).cells ({ frames := 0, cells := 0, slots := 0, locals := 0 } : Room).slots) := by
  refine MetFree.of_bodySF (Jvm.Free.JP.mathPlain rfl (by decide +kernel)) hisR ?_
  intro p e s m args below meth c s₁ Bd hml0 hP hK
  obtain ⟨rfl, hZ, hh⟩ := hP
  have hx := Bd.exec
  have hby := Bd.bytes
  have hml : c.maxLocals = 2 := hml0
  have hlk : meth.locks = false := BodyLoose.notSynchronized Bd
  have hown : s.vm.findClass "java/lang/Math" = some m.cls := findClass_of_methodNamed Bd.named
  have hnm := (name_of_methodNamed Bd.named Bd.method).1
  have X0 : Stand p l e ({ frames := 0, cells := 0, slots := 0, locals := 0 } : Room) s m #[(.int p1), (.int p2)] below meth c s₁ [] 0 0 := Stand.of_body Bd
  have e0 : s₁.heap = h0 := by rw [← hh, Bd.state]; rfl
  have N0 := Fr.nil n0
  show own_Go p e below s (Q_rm1 Z p1 p2 h0 n0) 0 0 (s₁.setTop (entryFrame m #[(.int p1), (.int p2)] 2))
  refine own_go (B := s₁.setTop (mkF m 0 #[.val (.int p1), .val (.int p2)] [])) (fun tgt cont => (XT.entry rfl).trans cont) ?_
  refine own_go (B := s₁.setTop (mkF m 2 #[.val (.int p1), .val (.int p2)] [(.int p2), (.int p1)])) (fun tgt cont => ?_) ?_
  · refine XS.iloadN X0.here hx rfl (hb hby d1_0) rfl ?_
    refine XS.iloadN X0.here hx rfl (hb hby d1_1) rfl ?_
    exact cont
  by_cases hc1 : p2 < p1
  ·
    refine own_go (B := s₁.setTop (mkF m 10 #[.val (.int p1), .val (.int p2)] [(.int p2)])) (fun tgt cont => ?_) ?_
    · refine XS.icmpYes X0.here hx rfl (pc0 := 2) (pc' := 9) rfl (hb hby d1_2) rfl (XT.ii_gt_t hc1) (by decide) (by decide) ?_
      refine XS.iloadN X0.here hx rfl (hb hby d1_9) rfl ?_
      exact cont
    refine own_end X0 (v := some (.int p2)) (fun h => by rw [Bd.returns] at h; cases h) hlk ?_ (by decide) (by decide) (fun fs hl => retI X0 hx Bd.returns (hb hby d1_10) hl)
    exact ⟨(by unfold own_min; first | (simp only [if_pos hc1]; done) | (simp only [if_pos hc1]; exact rfl) | exact rfl), N0, e0⟩
  ·
    refine own_go (B := s₁.setTop (mkF m 10 #[.val (.int p1), .val (.int p2)] [(.int p1)])) (fun tgt cont => ?_) ?_
    · refine XS.icmpNo X0.here hx rfl (hb hby d1_2) rfl (XT.ii_gt_f hc1) ?_
      refine XS.iloadN X0.here hx rfl (hb hby d1_5) rfl ?_
      refine XS.goto X0.here hx rfl (pc0 := 6) (pc' := 10) rfl (hb hby d1_6) (by decide) (by decide) ?_
      exact cont
    refine own_end X0 (v := some (.int p1)) (fun h => by rw [Bd.returns] at h; cases h) hlk ?_ (by decide) (by decide) (fun fs hl => retI X0 hx Bd.returns (hb hby d1_10) hl)
    exact ⟨(by unfold own_min; first | (simp only [if_neg hc1]; done) | (simp only [if_neg hc1]; exact rfl) | exact rfl), N0, e0⟩
def own_max (p1 : Int32) (p2 : Int32) : Int32 := if p1 < p2 then p2 else p1
def Q_rm2 (Z : State) (p1 : Int32) (p2 : Int32) (h0 : Heap) (n0 : Nat) (v : Option Value) (h : Heap) (L : List Loc) : Prop := v = some (.int (own_max p1 p2)) ∧ Fr n0 L ∧ h = h0
theorem d2_0 : decode jdk_29_method_65_code 0 = .ok (.iload_n 0, 1) := by decide +kernel
theorem d2_1 : decode jdk_29_method_65_code 1 = .ok (.iload_n 1, 1) := by decide +kernel
theorem d2_2 : decode jdk_29_method_65_code 2 = .ok (.if_icmp .lt 7, 3) := by decide +kernel
theorem d2_5 : decode jdk_29_method_65_code 5 = .ok (.iload_n 0, 1) := by decide +kernel
theorem d2_6 : decode jdk_29_method_65_code 6 = .ok (.goto 4, 3) := by decide +kernel
theorem d2_9 : decode jdk_29_method_65_code 9 = .ok (.iload_n 1, 1) := by decide +kernel
theorem d2_10 : decode jdk_29_method_65_code 10 = .ok (.ireturn, 1) := by decide +kernel
set_option maxRecDepth 65536 in
set_option maxHeartbeats 40000000 in
theorem rm2 (l : Launch) (Z : State) (a0 : Array Value) (hw : ∀ d ∈ tables_1, d.before a0 Z = true) (ws : List Jvm.Cond) (p1 : Int32) (p2 : Int32) (h0 : Heap) (n0 : Nat) (Z0 : n0 ≤ h0.size)  :
    MetFree l (⟨"java/lang/Math", "max", "(II)I"⟩ : MethodName) (head1 (Jvm.Cond.code (⟨"java/lang/Math", "max", "(II)I"⟩ : MethodName) jdk_29_method_65_code 2 (some .int) :: ws) ({ frames := 0, cells := 0, slots := 0, locals := 0 } : Room)) (fun aa U => aa = #[(.int p1), (.int p2)] ∧ Z.Warmed39 U.vm ∧ U.heap = h0) (fun _ _ _ _ _ => True) (fun _ U o U' => ∃ v L, o = .returned v ∧ Q_rm2 Z p1 p2 h0 n0 v U'.heap L ∧ FrameEnd U o U' L ({ frames := 0, cells := 0, slots := 0, locals := 0 } : Room).cells ({ frames := 0, cells := 0, slots := 0, locals := 0 } : Room).slots) := by
  refine MetFree.of_bodySF (Jvm.Free.JP.mathPlain rfl (by decide +kernel)) hisR ?_
  intro p e s m args below meth c s₁ Bd hml0 hP hK
  obtain ⟨rfl, hZ, hh⟩ := hP
  have hx := Bd.exec
  have hby := Bd.bytes
  have hml : c.maxLocals = 2 := hml0
  have hlk : meth.locks = false := BodyLoose.notSynchronized Bd
  have hown : s.vm.findClass "java/lang/Math" = some m.cls := findClass_of_methodNamed Bd.named
  have hnm := (name_of_methodNamed Bd.named Bd.method).1
  have X0 : Stand p l e ({ frames := 0, cells := 0, slots := 0, locals := 0 } : Room) s m #[(.int p1), (.int p2)] below meth c s₁ [] 0 0 := Stand.of_body Bd
  have e0 : s₁.heap = h0 := by rw [← hh, Bd.state]; rfl
  have N0 := Fr.nil n0
  show own_Go p e below s (Q_rm2 Z p1 p2 h0 n0) 0 0 (s₁.setTop (entryFrame m #[(.int p1), (.int p2)] 2))
  refine own_go (B := s₁.setTop (mkF m 0 #[.val (.int p1), .val (.int p2)] [])) (fun tgt cont => (XT.entry rfl).trans cont) ?_
  refine own_go (B := s₁.setTop (mkF m 2 #[.val (.int p1), .val (.int p2)] [(.int p2), (.int p1)])) (fun tgt cont => ?_) ?_
  · refine XS.iloadN X0.here hx rfl (hb hby d2_0) rfl ?_
    refine XS.iloadN X0.here hx rfl (hb hby d2_1) rfl ?_
    exact cont
  by_cases hc1 : p1 < p2
  ·
    refine own_go (B := s₁.setTop (mkF m 10 #[.val (.int p1), .val (.int p2)] [(.int p2)])) (fun tgt cont => ?_) ?_
    · refine XS.icmpYes X0.here hx rfl (pc0 := 2) (pc' := 9) rfl (hb hby d2_2) rfl (XT.ii_lt_t hc1) (by decide) (by decide) ?_
      refine XS.iloadN X0.here hx rfl (hb hby d2_9) rfl ?_
      exact cont
    refine own_end X0 (v := some (.int p2)) (fun h => by rw [Bd.returns] at h; cases h) hlk ?_ (by decide) (by decide) (fun fs hl => retI X0 hx Bd.returns (hb hby d2_10) hl)
    exact ⟨(by unfold own_max; first | (simp only [if_pos hc1]; done) | (simp only [if_pos hc1]; exact rfl) | exact rfl), N0, e0⟩
  ·
    refine own_go (B := s₁.setTop (mkF m 10 #[.val (.int p1), .val (.int p2)] [(.int p1)])) (fun tgt cont => ?_) ?_
    · refine XS.icmpNo X0.here hx rfl (hb hby d2_2) rfl (XT.ii_lt_f hc1) ?_
      refine XS.iloadN X0.here hx rfl (hb hby d2_5) rfl ?_
      refine XS.goto X0.here hx rfl (pc0 := 6) (pc' := 10) rfl (hb hby d2_6) (by decide) (by decide) ?_
      exact cont
    refine own_end X0 (v := some (.int p1)) (fun h => by rw [Bd.returns] at h; cases h) hlk ?_ (by decide) (by decide) (fun fs hl => retI X0 hx Bd.returns (hb hby d2_10) hl)
    exact ⟨(by unfold own_max; first | (simp only [if_neg hc1]; done) | (simp only [if_neg hc1]; exact rfl) | exact rfl), N0, e0⟩
theorem own_tk0 {vs : List Int32} (h : vs.length = 4) : [] = vs.take 0 := by
  obtain ⟨a, b, c, d, rfl⟩ := own_takes h
  rfl
def Q_rm3_0 (Z : State) (a : Addr) (vs : List Int32) (h0 : Heap) (n0 : Nat) (v : Option Value) (h : Heap) (L : List Loc) : Prop := ∃ b : Addr, v = some (.ref b) ∧ Fr n0 L ∧ Keep h0 h [] ∧ h0.size ≤ b ∧ own_IA Z h b (vs.take 0) ∧ Exa Z h b "[I"
theorem own_pn0 : plainName "com/example/treebound/treebound/SortedSetsUnionPinLaw" = true := by first | (simp [plainName, overriddenIn]; done) | decide +kernel
theorem d3_0 : decode method_3_code 0 = .ok (.iload_n 1, 1) := by decide +kernel
theorem d3_1 : decode method_3_code 1 = .ok (.ifCond .ne 7, 3) := by decide +kernel
theorem d3_4 : decode method_3_code 4 = .ok (.iconst 0, 1) := by decide +kernel
theorem d3_5 : decode method_3_code 5 = .ok (.newarray .int, 2) := by decide +kernel
theorem d3_7 : decode method_3_code 7 = .ok (.areturn, 1) := by decide +kernel
set_option maxRecDepth 65536 in
set_option maxHeartbeats 40000000 in
theorem rm3_0 (l : Launch) (Z : State) (a0 : Array Value) (hw : ∀ d ∈ tables_1, d.before a0 Z = true) (ws : List Jvm.Cond) (a : Addr) (vs : List Int32) (h0 : Heap) (n0 : Nat) (Z0 : n0 ≤ h0.size) (A_a : own_IA Z h0 a vs) (hl : vs.length = 4) :
    MetFree l (⟨"com/example/treebound/treebound/SortedSetsUnionPinLaw", "take", "([II)[I"⟩ : MethodName) (head1 (Jvm.Cond.code (⟨"com/example/treebound/treebound/SortedSetsUnionPinLaw", "take", "([II)[I"⟩ : MethodName) method_3_code 2 (some (.array .int)) :: ws) ({ frames := 0, cells := 1, slots := 4, locals := 0 } : Room)) (fun aa U => aa = #[(.ref a), (.int (0 : Int32))] ∧ Z.Warmed39 U.vm ∧ U.heap = h0) (fun _ _ _ _ _ => True) (fun _ U o U' => ∃ v L, o = .returned v ∧ Q_rm3_0 Z a vs h0 n0 v U'.heap L ∧ FrameEnd U o U' L ({ frames := 0, cells := 1, slots := 4, locals := 0 } : Room).cells ({ frames := 0, cells := 1, slots := 4, locals := 0 } : Room).slots) := by
  refine MetFree.of_bodySF (plainFor_of_name own_pn0) hisR ?_
  intro p e s m args below meth c s₁ Bd hml0 hP hK
  obtain ⟨rfl, hZ, hh⟩ := hP
  have hx := Bd.exec
  have hby := Bd.bytes
  have hml : c.maxLocals = 2 := hml0
  have hlk : meth.locks = false := BodyLoose.notSynchronized Bd
  have hown : s.vm.findClass "com/example/treebound/treebound/SortedSetsUnionPinLaw" = some m.cls := findClass_of_methodNamed Bd.named
  have hnm := (name_of_methodNamed Bd.named Bd.method).1
  have X0 : Stand p l e ({ frames := 0, cells := 1, slots := 4, locals := 0 } : Room) s m #[(.ref a), (.int (0 : Int32))] below meth c s₁ [] 0 0 := Stand.of_body Bd
  have e0 : s₁.heap = h0 := by rw [← hh, Bd.state]; rfl
  have N0 := Fr.nil n0
  show own_Go p e below s (Q_rm3_0 Z a vs h0 n0) 1 4 (s₁.setTop (entryFrame m #[(.ref a), (.int (0 : Int32))] 2))
  refine own_go (B := s₁.setTop (mkF m 0 #[.val (.ref a), .val (.int (0 : Int32))] [])) (fun tgt cont => (XT.entry rfl).trans cont) ?_
  refine own_go (B := s₁.setTop (mkF m 5 #[.val (.ref a), .val (.int (0 : Int32))] [(.int (0 : Int32))])) (fun tgt cont => ?_) ?_
  · refine XS.iloadN X0.here hx rfl (hb hby d3_0) rfl ?_
    refine XS.ifNo X0.here hx rfl (hb hby d3_1) rfl (XT.i0_ne_f (by decide)) ?_
    refine XT.iconstV X0.here hx rfl (0 : Int32) (hb hby d3_4) rfl ?_
    exact cont
  obtain ⟨T1, h1, X1, e1, E1, A1, AE1, st1⟩ := own_newIA X0 hx hZ (hw _ (List.mem_of_getElem? (i := 7) rfl)) e0 (g := (mkF m 5 #[.val (.ref a), .val (.int (0 : Int32))] [(.int (0 : Int32))])) rfl (hb hby d3_5) rfl (by decide) (cap := 0) (by decide) (by decide) (by decide) (by decide)
  obtain ⟨b1, g1⟩ : ∃ z, z = h0.size := ⟨_, rfl⟩
  rw [← g1] at A1 AE1 st1
  have g_b1 : n0 ≤ b1 := Nat.le_trans Z0 (Nat.le_of_eq g1.symm)
  have sz_b1 : h0.size ≤ b1 := Nat.le_trans (Keep.refl h0 []).1 (Nat.le_of_eq g1.symm)
  have ne_a_b1 : a ≠ b1 := Nat.ne_of_lt (by rw [g1]; exact A_a.lt)
  have kk1 : Keep h0 h1 [] := (Keep.refl h0 []).ext E1
  have zp1 : n0 ≤ h1.size := Nat.le_trans Z0 kk1.1
  have A1v : own_IA Z h1 b1 [] := A1
  refine own_go (fun tgt cont => st1 tgt cont) ?_
  show own_Go p e below s (Q_rm3_0 Z a vs h0 n0) 1 4 (T1.setTop (mkF m 7 #[.val (.ref a), .val (.int (0 : Int32))] [(.ref b1)]))
  refine own_end X1 (v := some (.ref b1)) (fun h => by rw [Bd.returns] at h; cases h) hlk ?_ (by decide) (by decide) (fun fs hl => retOut X1 hx Bd.returns rfl (Or.inr (Or.inr (Or.inr (Or.inr ⟨rfl, rfl, rfl⟩)))) (hb hby d3_7) hl)
  rw [e1]
  exact ⟨_, rfl, N0, kk1, sz_b1, (A1v.cong (own_tk0 hl)), AE1⟩
theorem own_tk1 {vs : List Int32} (h : vs.length = 4) : [vs.getD (0 : Int32).toNatClampNeg 0] = vs.take 1 := by
  obtain ⟨a, b, c, d, rfl⟩ := own_takes h
  rfl
def Q_rm3_1 (Z : State) (a : Addr) (vs : List Int32) (h0 : Heap) (n0 : Nat) (v : Option Value) (h : Heap) (L : List Loc) : Prop := ∃ b : Addr, v = some (.ref b) ∧ Fr n0 L ∧ Keep h0 h [] ∧ h0.size ≤ b ∧ own_IA Z h b (vs.take 1) ∧ Exa Z h b "[I"
theorem d3_8 : decode method_3_code 8 = .ok (.iload_n 1, 1) := by decide +kernel
theorem d3_9 : decode method_3_code 9 = .ok (.iconst 1, 1) := by decide +kernel
theorem d3_10 : decode method_3_code 10 = .ok (.if_icmp .ne 13, 3) := by decide +kernel
theorem d3_13 : decode method_3_code 13 = .ok (.iconst 1, 1) := by decide +kernel
theorem d3_14 : decode method_3_code 14 = .ok (.newarray .int, 2) := by decide +kernel
theorem d3_16 : decode method_3_code 16 = .ok (.dup, 1) := by decide +kernel
theorem d3_17 : decode method_3_code 17 = .ok (.iconst 0, 1) := by decide +kernel
theorem d3_18 : decode method_3_code 18 = .ok (.aload_n 0, 1) := by decide +kernel
theorem d3_19 : decode method_3_code 19 = .ok (.iconst 0, 1) := by decide +kernel
theorem d3_20 : decode method_3_code 20 = .ok (.iaload, 1) := by decide +kernel
theorem d3_21 : decode method_3_code 21 = .ok (.iastore, 1) := by decide +kernel
theorem d3_22 : decode method_3_code 22 = .ok (.areturn, 1) := by decide +kernel
set_option maxRecDepth 65536 in
set_option maxHeartbeats 40000000 in
theorem rm3_1 (l : Launch) (Z : State) (a0 : Array Value) (hw : ∀ d ∈ tables_1, d.before a0 Z = true) (ws : List Jvm.Cond) (a : Addr) (vs : List Int32) (h0 : Heap) (n0 : Nat) (Z0 : n0 ≤ h0.size) (A_a : own_IA Z h0 a vs) (hl : vs.length = 4) :
    MetFree l (⟨"com/example/treebound/treebound/SortedSetsUnionPinLaw", "take", "([II)[I"⟩ : MethodName) (head1 (Jvm.Cond.code (⟨"com/example/treebound/treebound/SortedSetsUnionPinLaw", "take", "([II)[I"⟩ : MethodName) method_3_code 2 (some (.array .int)) :: ws) ({ frames := 0, cells := 1, slots := 4, locals := 0 } : Room)) (fun aa U => aa = #[(.ref a), (.int (1 : Int32))] ∧ Z.Warmed39 U.vm ∧ U.heap = h0) (fun _ _ _ _ _ => True) (fun _ U o U' => ∃ v L, o = .returned v ∧ Q_rm3_1 Z a vs h0 n0 v U'.heap L ∧ FrameEnd U o U' L ({ frames := 0, cells := 1, slots := 4, locals := 0 } : Room).cells ({ frames := 0, cells := 1, slots := 4, locals := 0 } : Room).slots) := by
  refine MetFree.of_bodySF (plainFor_of_name own_pn0) hisR ?_
  intro p e s m args below meth c s₁ Bd hml0 hP hK
  obtain ⟨rfl, hZ, hh⟩ := hP
  have hx := Bd.exec
  have hby := Bd.bytes
  have hml : c.maxLocals = 2 := hml0
  have hlk : meth.locks = false := BodyLoose.notSynchronized Bd
  have hown : s.vm.findClass "com/example/treebound/treebound/SortedSetsUnionPinLaw" = some m.cls := findClass_of_methodNamed Bd.named
  have hnm := (name_of_methodNamed Bd.named Bd.method).1
  have X0 : Stand p l e ({ frames := 0, cells := 1, slots := 4, locals := 0 } : Room) s m #[(.ref a), (.int (1 : Int32))] below meth c s₁ [] 0 0 := Stand.of_body Bd
  have e0 : s₁.heap = h0 := by rw [← hh, Bd.state]; rfl
  have N0 := Fr.nil n0
  show own_Go p e below s (Q_rm3_1 Z a vs h0 n0) 1 4 (s₁.setTop (entryFrame m #[(.ref a), (.int (1 : Int32))] 2))
  refine own_go (B := s₁.setTop (mkF m 0 #[.val (.ref a), .val (.int (1 : Int32))] [])) (fun tgt cont => (XT.entry rfl).trans cont) ?_
  refine own_go (B := s₁.setTop (mkF m 14 #[.val (.ref a), .val (.int (1 : Int32))] [(.int (1 : Int32))])) (fun tgt cont => ?_) ?_
  · refine XS.iloadN X0.here hx rfl (hb hby d3_0) rfl ?_
    refine XS.ifYes X0.here hx rfl (pc0 := 1) (pc' := 8) rfl (hb hby d3_1) rfl (XT.i0_ne_t (by decide)) (by decide) (by decide) ?_
    refine XS.iloadN X0.here hx rfl (hb hby d3_8) rfl ?_
    refine XT.iconstV X0.here hx rfl (1 : Int32) (hb hby d3_9) rfl ?_
    refine XS.icmpNo X0.here hx rfl (hb hby d3_10) rfl (XT.ii_ne_f (by decide)) ?_
    refine XT.iconstV X0.here hx rfl (1 : Int32) (hb hby d3_13) rfl ?_
    exact cont
  obtain ⟨T1, h1, X1, e1, E1, A1, AE1, st1⟩ := own_newIA X0 hx hZ (hw _ (List.mem_of_getElem? (i := 7) rfl)) e0 (g := (mkF m 14 #[.val (.ref a), .val (.int (1 : Int32))] [(.int (1 : Int32))])) rfl (hb hby d3_14) rfl (by decide) (cap := 1) (by decide) (by decide) (by decide) (by decide)
  obtain ⟨b1, g1⟩ : ∃ z, z = h0.size := ⟨_, rfl⟩
  rw [← g1] at A1 AE1 st1
  have g_b1 : n0 ≤ b1 := Nat.le_trans Z0 (Nat.le_of_eq g1.symm)
  have sz_b1 : h0.size ≤ b1 := Nat.le_trans (Keep.refl h0 []).1 (Nat.le_of_eq g1.symm)
  have ne_a_b1 : a ≠ b1 := Nat.ne_of_lt (by rw [g1]; exact A_a.lt)
  have kk1 : Keep h0 h1 [] := (Keep.refl h0 []).ext E1
  have zp1 : n0 ≤ h1.size := Nat.le_trans Z0 kk1.1
  have A1v : own_IA Z h1 b1 [(0 : Int32)] := A1
  refine own_go (fun tgt cont => st1 tgt cont) ?_
  show own_Go p e below s (Q_rm3_1 Z a vs h0 n0) 1 4 (T1.setTop (mkF m 16 #[.val (.ref a), .val (.int (1 : Int32))] [(.ref b1)]))
  have f2 := (A_a.ext E1)
  refine own_go (B := T1.setTop (mkF m 21 #[.val (.ref a), .val (.int (1 : Int32))] [(.int (vs.getD (0 : Int32).toNatClampNeg 0)), (.int (0 : Int32)), (.ref b1), (.ref b1)])) (fun tgt cont => ?_) ?_
  · refine XS.dup X1.here hx rfl (hb hby d3_16) rfl rfl ?_
    refine XT.iconstV X1.here hx rfl (0 : Int32) (hb hby d3_17) rfl ?_
    refine XS.aloadN X1.here hx rfl (hb hby d3_18) rfl rfl ?_
    refine XT.iconstV X1.here hx rfl (0 : Int32) (hb hby d3_19) rfl ?_
    refine own_ldIA X1 hx hZ e1 f2 (j := (0 : Int32)) ⟨by decide, by rw [hl]; decide⟩ (g := (mkF m 20 #[.val (.ref a), .val (.int (1 : Int32))] [(.int (0 : Int32)), (.ref a), (.int (0 : Int32)), (.ref b1), (.ref b1)])) rfl rfl (hb hby d3_20) ?_
    exact cont
  obtain ⟨T3, h3, X3, e3, W3, A3, st3⟩ := own_stIA X1 hx hZ e1 A1v (j := (0 : Int32)) (x := (vs.getD (0 : Int32).toNatClampNeg 0)) ⟨by decide, Nat.le_of_ble_eq_true rfl⟩ (g := (mkF m 21 #[.val (.ref a), .val (.int (1 : Int32))] [(.int (vs.getD (0 : Int32).toNatClampNeg 0)), (.int (0 : Int32)), (.ref b1), (.ref b1)])) rfl rfl (hb hby d3_21)
  have N3 := Fr.snoc X3 N0 g_b1
  have kk3 : Keep h0 h3 [] := kk1.wr W3 (Or.inr sz_b1)
  have zp3 : n0 ≤ h3.size := Nat.le_trans Z0 kk3.1
  have A3v : own_IA Z h3 b1 [(vs.getD (0 : Int32).toNatClampNeg 0)] := A3
  refine own_go (fun tgt cont => st3 tgt cont) ?_
  show own_Go p e below s (Q_rm3_1 Z a vs h0 n0) 1 4 (T3.setTop (mkF m 22 #[.val (.ref a), .val (.int (1 : Int32))] [(.ref b1)]))
  refine own_end X3 (v := some (.ref b1)) (fun h => by rw [Bd.returns] at h; cases h) hlk ?_ (by decide) (by decide) (fun fs hl => retOut X3 hx Bd.returns rfl (Or.inr (Or.inr (Or.inr (Or.inr ⟨rfl, rfl, rfl⟩)))) (hb hby d3_22) hl)
  have f4 := (AE1.wr W3)
  rw [e3]
  exact ⟨_, rfl, N3, kk3, sz_b1, (A3v.cong (own_tk1 hl)), f4⟩
theorem own_tk2 {vs : List Int32} (h : vs.length = 4) : [vs.getD (0 : Int32).toNatClampNeg 0, vs.getD (1 : Int32).toNatClampNeg 0] = vs.take 2 := by
  obtain ⟨a, b, c, d, rfl⟩ := own_takes h
  rfl
def Q_rm3_2 (Z : State) (a : Addr) (vs : List Int32) (h0 : Heap) (n0 : Nat) (v : Option Value) (h : Heap) (L : List Loc) : Prop := ∃ b : Addr, v = some (.ref b) ∧ Fr n0 L ∧ Keep h0 h [] ∧ h0.size ≤ b ∧ own_IA Z h b (vs.take 2) ∧ Exa Z h b "[I"
theorem d3_23 : decode method_3_code 23 = .ok (.iload_n 1, 1) := by decide +kernel
theorem d3_24 : decode method_3_code 24 = .ok (.iconst 2, 1) := by decide +kernel
theorem d3_25 : decode method_3_code 25 = .ok (.if_icmp .ne 19, 3) := by decide +kernel
theorem d3_28 : decode method_3_code 28 = .ok (.iconst 2, 1) := by decide +kernel
theorem d3_29 : decode method_3_code 29 = .ok (.newarray .int, 2) := by decide +kernel
theorem d3_31 : decode method_3_code 31 = .ok (.dup, 1) := by decide +kernel
theorem d3_32 : decode method_3_code 32 = .ok (.iconst 0, 1) := by decide +kernel
theorem d3_33 : decode method_3_code 33 = .ok (.aload_n 0, 1) := by decide +kernel
theorem d3_34 : decode method_3_code 34 = .ok (.iconst 0, 1) := by decide +kernel
theorem d3_35 : decode method_3_code 35 = .ok (.iaload, 1) := by decide +kernel
theorem d3_36 : decode method_3_code 36 = .ok (.iastore, 1) := by decide +kernel
theorem d3_37 : decode method_3_code 37 = .ok (.dup, 1) := by decide +kernel
theorem d3_38 : decode method_3_code 38 = .ok (.iconst 1, 1) := by decide +kernel
theorem d3_39 : decode method_3_code 39 = .ok (.aload_n 0, 1) := by decide +kernel
theorem d3_40 : decode method_3_code 40 = .ok (.iconst 1, 1) := by decide +kernel
theorem d3_41 : decode method_3_code 41 = .ok (.iaload, 1) := by decide +kernel
theorem d3_42 : decode method_3_code 42 = .ok (.iastore, 1) := by decide +kernel
theorem d3_43 : decode method_3_code 43 = .ok (.areturn, 1) := by decide +kernel
set_option maxRecDepth 65536 in
set_option maxHeartbeats 40000000 in
theorem rm3_2 (l : Launch) (Z : State) (a0 : Array Value) (hw : ∀ d ∈ tables_1, d.before a0 Z = true) (ws : List Jvm.Cond) (a : Addr) (vs : List Int32) (h0 : Heap) (n0 : Nat) (Z0 : n0 ≤ h0.size) (A_a : own_IA Z h0 a vs) (hl : vs.length = 4) :
    MetFree l (⟨"com/example/treebound/treebound/SortedSetsUnionPinLaw", "take", "([II)[I"⟩ : MethodName) (head1 (Jvm.Cond.code (⟨"com/example/treebound/treebound/SortedSetsUnionPinLaw", "take", "([II)[I"⟩ : MethodName) method_3_code 2 (some (.array .int)) :: ws) ({ frames := 0, cells := 1, slots := 4, locals := 0 } : Room)) (fun aa U => aa = #[(.ref a), (.int (2 : Int32))] ∧ Z.Warmed39 U.vm ∧ U.heap = h0) (fun _ _ _ _ _ => True) (fun _ U o U' => ∃ v L, o = .returned v ∧ Q_rm3_2 Z a vs h0 n0 v U'.heap L ∧ FrameEnd U o U' L ({ frames := 0, cells := 1, slots := 4, locals := 0 } : Room).cells ({ frames := 0, cells := 1, slots := 4, locals := 0 } : Room).slots) := by
  refine MetFree.of_bodySF (plainFor_of_name own_pn0) hisR ?_
  intro p e s m args below meth c s₁ Bd hml0 hP hK
  obtain ⟨rfl, hZ, hh⟩ := hP
  have hx := Bd.exec
  have hby := Bd.bytes
  have hml : c.maxLocals = 2 := hml0
  have hlk : meth.locks = false := BodyLoose.notSynchronized Bd
  have hown : s.vm.findClass "com/example/treebound/treebound/SortedSetsUnionPinLaw" = some m.cls := findClass_of_methodNamed Bd.named
  have hnm := (name_of_methodNamed Bd.named Bd.method).1
  have X0 : Stand p l e ({ frames := 0, cells := 1, slots := 4, locals := 0 } : Room) s m #[(.ref a), (.int (2 : Int32))] below meth c s₁ [] 0 0 := Stand.of_body Bd
  have e0 : s₁.heap = h0 := by rw [← hh, Bd.state]; rfl
  have N0 := Fr.nil n0
  show own_Go p e below s (Q_rm3_2 Z a vs h0 n0) 1 4 (s₁.setTop (entryFrame m #[(.ref a), (.int (2 : Int32))] 2))
  refine own_go (B := s₁.setTop (mkF m 0 #[.val (.ref a), .val (.int (2 : Int32))] [])) (fun tgt cont => (XT.entry rfl).trans cont) ?_
  refine own_go (B := s₁.setTop (mkF m 29 #[.val (.ref a), .val (.int (2 : Int32))] [(.int (2 : Int32))])) (fun tgt cont => ?_) ?_
  · refine XS.iloadN X0.here hx rfl (hb hby d3_0) rfl ?_
    refine XS.ifYes X0.here hx rfl (pc0 := 1) (pc' := 8) rfl (hb hby d3_1) rfl (XT.i0_ne_t (by decide)) (by decide) (by decide) ?_
    refine XS.iloadN X0.here hx rfl (hb hby d3_8) rfl ?_
    refine XT.iconstV X0.here hx rfl (1 : Int32) (hb hby d3_9) rfl ?_
    refine XS.icmpYes X0.here hx rfl (pc0 := 10) (pc' := 23) rfl (hb hby d3_10) rfl (XT.ii_ne_t (by decide)) (by decide) (by decide) ?_
    refine XS.iloadN X0.here hx rfl (hb hby d3_23) rfl ?_
    refine XT.iconstV X0.here hx rfl (2 : Int32) (hb hby d3_24) rfl ?_
    refine XS.icmpNo X0.here hx rfl (hb hby d3_25) rfl (XT.ii_ne_f (by decide)) ?_
    refine XT.iconstV X0.here hx rfl (2 : Int32) (hb hby d3_28) rfl ?_
    exact cont
  obtain ⟨T1, h1, X1, e1, E1, A1, AE1, st1⟩ := own_newIA X0 hx hZ (hw _ (List.mem_of_getElem? (i := 7) rfl)) e0 (g := (mkF m 29 #[.val (.ref a), .val (.int (2 : Int32))] [(.int (2 : Int32))])) rfl (hb hby d3_29) rfl (by decide) (cap := 2) (by decide) (by decide) (by decide) (by decide)
  obtain ⟨b1, g1⟩ : ∃ z, z = h0.size := ⟨_, rfl⟩
  rw [← g1] at A1 AE1 st1
  have g_b1 : n0 ≤ b1 := Nat.le_trans Z0 (Nat.le_of_eq g1.symm)
  have sz_b1 : h0.size ≤ b1 := Nat.le_trans (Keep.refl h0 []).1 (Nat.le_of_eq g1.symm)
  have ne_a_b1 : a ≠ b1 := Nat.ne_of_lt (by rw [g1]; exact A_a.lt)
  have kk1 : Keep h0 h1 [] := (Keep.refl h0 []).ext E1
  have zp1 : n0 ≤ h1.size := Nat.le_trans Z0 kk1.1
  have A1v : own_IA Z h1 b1 [(0 : Int32), (0 : Int32)] := A1
  refine own_go (fun tgt cont => st1 tgt cont) ?_
  show own_Go p e below s (Q_rm3_2 Z a vs h0 n0) 1 4 (T1.setTop (mkF m 31 #[.val (.ref a), .val (.int (2 : Int32))] [(.ref b1)]))
  have f2 := (A_a.ext E1)
  refine own_go (B := T1.setTop (mkF m 36 #[.val (.ref a), .val (.int (2 : Int32))] [(.int (vs.getD (0 : Int32).toNatClampNeg 0)), (.int (0 : Int32)), (.ref b1), (.ref b1)])) (fun tgt cont => ?_) ?_
  · refine XS.dup X1.here hx rfl (hb hby d3_31) rfl rfl ?_
    refine XT.iconstV X1.here hx rfl (0 : Int32) (hb hby d3_32) rfl ?_
    refine XS.aloadN X1.here hx rfl (hb hby d3_33) rfl rfl ?_
    refine XT.iconstV X1.here hx rfl (0 : Int32) (hb hby d3_34) rfl ?_
    refine own_ldIA X1 hx hZ e1 f2 (j := (0 : Int32)) ⟨by decide, by rw [hl]; decide⟩ (g := (mkF m 35 #[.val (.ref a), .val (.int (2 : Int32))] [(.int (0 : Int32)), (.ref a), (.int (0 : Int32)), (.ref b1), (.ref b1)])) rfl rfl (hb hby d3_35) ?_
    exact cont
  obtain ⟨T3, h3, X3, e3, W3, A3, st3⟩ := own_stIA X1 hx hZ e1 A1v (j := (0 : Int32)) (x := (vs.getD (0 : Int32).toNatClampNeg 0)) ⟨by decide, Nat.le_of_ble_eq_true rfl⟩ (g := (mkF m 36 #[.val (.ref a), .val (.int (2 : Int32))] [(.int (vs.getD (0 : Int32).toNatClampNeg 0)), (.int (0 : Int32)), (.ref b1), (.ref b1)])) rfl rfl (hb hby d3_36)
  have N3 := Fr.snoc X3 N0 g_b1
  have kk3 : Keep h0 h3 [] := kk1.wr W3 (Or.inr sz_b1)
  have zp3 : n0 ≤ h3.size := Nat.le_trans Z0 kk3.1
  have A3v : own_IA Z h3 b1 [(vs.getD (0 : Int32).toNatClampNeg 0), (0 : Int32)] := A3
  refine own_go (fun tgt cont => st3 tgt cont) ?_
  show own_Go p e below s (Q_rm3_2 Z a vs h0 n0) 1 4 (T3.setTop (mkF m 37 #[.val (.ref a), .val (.int (2 : Int32))] [(.ref b1)]))
  have f4 := (f2.other W3 ne_a_b1)
  refine own_go (B := T3.setTop (mkF m 42 #[.val (.ref a), .val (.int (2 : Int32))] [(.int (vs.getD (1 : Int32).toNatClampNeg 0)), (.int (1 : Int32)), (.ref b1), (.ref b1)])) (fun tgt cont => ?_) ?_
  · refine XS.dup X3.here hx rfl (hb hby d3_37) rfl rfl ?_
    refine XT.iconstV X3.here hx rfl (1 : Int32) (hb hby d3_38) rfl ?_
    refine XS.aloadN X3.here hx rfl (hb hby d3_39) rfl rfl ?_
    refine XT.iconstV X3.here hx rfl (1 : Int32) (hb hby d3_40) rfl ?_
    refine own_ldIA X3 hx hZ e3 f4 (j := (1 : Int32)) ⟨by decide, by rw [hl]; decide⟩ (g := (mkF m 41 #[.val (.ref a), .val (.int (2 : Int32))] [(.int (1 : Int32)), (.ref a), (.int (1 : Int32)), (.ref b1), (.ref b1)])) rfl rfl (hb hby d3_41) ?_
    exact cont
  obtain ⟨T5, h5, X5, e5, W5, A5, st5⟩ := own_stIA X3 hx hZ e3 A3v (j := (1 : Int32)) (x := (vs.getD (1 : Int32).toNatClampNeg 0)) ⟨by decide, Nat.le_of_ble_eq_true rfl⟩ (g := (mkF m 42 #[.val (.ref a), .val (.int (2 : Int32))] [(.int (vs.getD (1 : Int32).toNatClampNeg 0)), (.int (1 : Int32)), (.ref b1), (.ref b1)])) rfl rfl (hb hby d3_42)
  have N5 := Fr.snoc X5 N3 g_b1
  have kk5 : Keep h0 h5 [] := kk3.wr W5 (Or.inr sz_b1)
  have zp5 : n0 ≤ h5.size := Nat.le_trans Z0 kk5.1
  have A5v : own_IA Z h5 b1 [(vs.getD (0 : Int32).toNatClampNeg 0), (vs.getD (1 : Int32).toNatClampNeg 0)] := A5
  refine own_go (fun tgt cont => st5 tgt cont) ?_
  show own_Go p e below s (Q_rm3_2 Z a vs h0 n0) 1 4 (T5.setTop (mkF m 43 #[.val (.ref a), .val (.int (2 : Int32))] [(.ref b1)]))
  refine own_end X5 (v := some (.ref b1)) (fun h => by rw [Bd.returns] at h; cases h) hlk ?_ (by decide) (by decide) (fun fs hl => retOut X5 hx Bd.returns rfl (Or.inr (Or.inr (Or.inr (Or.inr ⟨rfl, rfl, rfl⟩)))) (hb hby d3_43) hl)
  have f6 := ((AE1.wr W3).wr W5)
  rw [e5]
  exact ⟨_, rfl, N5, kk5, sz_b1, (A5v.cong (own_tk2 hl)), f6⟩
theorem own_tk3 {vs : List Int32} (h : vs.length = 4) : [vs.getD (0 : Int32).toNatClampNeg 0, vs.getD (1 : Int32).toNatClampNeg 0, vs.getD (2 : Int32).toNatClampNeg 0] = vs.take 3 := by
  obtain ⟨a, b, c, d, rfl⟩ := own_takes h
  rfl
def Q_rm3_3 (Z : State) (a : Addr) (vs : List Int32) (h0 : Heap) (n0 : Nat) (v : Option Value) (h : Heap) (L : List Loc) : Prop := ∃ b : Addr, v = some (.ref b) ∧ Fr n0 L ∧ Keep h0 h [] ∧ h0.size ≤ b ∧ own_IA Z h b (vs.take 3) ∧ Exa Z h b "[I"
theorem d3_44 : decode method_3_code 44 = .ok (.iload_n 1, 1) := by decide +kernel
theorem d3_45 : decode method_3_code 45 = .ok (.iconst 3, 1) := by decide +kernel
theorem d3_46 : decode method_3_code 46 = .ok (.if_icmp .ne 25, 3) := by decide +kernel
theorem d3_49 : decode method_3_code 49 = .ok (.iconst 3, 1) := by decide +kernel
theorem d3_50 : decode method_3_code 50 = .ok (.newarray .int, 2) := by decide +kernel
theorem d3_52 : decode method_3_code 52 = .ok (.dup, 1) := by decide +kernel
theorem d3_53 : decode method_3_code 53 = .ok (.iconst 0, 1) := by decide +kernel
theorem d3_54 : decode method_3_code 54 = .ok (.aload_n 0, 1) := by decide +kernel
theorem d3_55 : decode method_3_code 55 = .ok (.iconst 0, 1) := by decide +kernel
theorem d3_56 : decode method_3_code 56 = .ok (.iaload, 1) := by decide +kernel
theorem d3_57 : decode method_3_code 57 = .ok (.iastore, 1) := by decide +kernel
theorem d3_58 : decode method_3_code 58 = .ok (.dup, 1) := by decide +kernel
theorem d3_59 : decode method_3_code 59 = .ok (.iconst 1, 1) := by decide +kernel
theorem d3_60 : decode method_3_code 60 = .ok (.aload_n 0, 1) := by decide +kernel
theorem d3_61 : decode method_3_code 61 = .ok (.iconst 1, 1) := by decide +kernel
theorem d3_62 : decode method_3_code 62 = .ok (.iaload, 1) := by decide +kernel
theorem d3_63 : decode method_3_code 63 = .ok (.iastore, 1) := by decide +kernel
theorem d3_64 : decode method_3_code 64 = .ok (.dup, 1) := by decide +kernel
theorem d3_65 : decode method_3_code 65 = .ok (.iconst 2, 1) := by decide +kernel
theorem d3_66 : decode method_3_code 66 = .ok (.aload_n 0, 1) := by decide +kernel
theorem d3_67 : decode method_3_code 67 = .ok (.iconst 2, 1) := by decide +kernel
theorem d3_68 : decode method_3_code 68 = .ok (.iaload, 1) := by decide +kernel
theorem d3_69 : decode method_3_code 69 = .ok (.iastore, 1) := by decide +kernel
theorem d3_70 : decode method_3_code 70 = .ok (.areturn, 1) := by decide +kernel
set_option maxRecDepth 65536 in
set_option maxHeartbeats 40000000 in
theorem rm3_3 (l : Launch) (Z : State) (a0 : Array Value) (hw : ∀ d ∈ tables_1, d.before a0 Z = true) (ws : List Jvm.Cond) (a : Addr) (vs : List Int32) (h0 : Heap) (n0 : Nat) (Z0 : n0 ≤ h0.size) (A_a : own_IA Z h0 a vs) (hl : vs.length = 4) :
    MetFree l (⟨"com/example/treebound/treebound/SortedSetsUnionPinLaw", "take", "([II)[I"⟩ : MethodName) (head1 (Jvm.Cond.code (⟨"com/example/treebound/treebound/SortedSetsUnionPinLaw", "take", "([II)[I"⟩ : MethodName) method_3_code 2 (some (.array .int)) :: ws) ({ frames := 0, cells := 1, slots := 4, locals := 0 } : Room)) (fun aa U => aa = #[(.ref a), (.int (3 : Int32))] ∧ Z.Warmed39 U.vm ∧ U.heap = h0) (fun _ _ _ _ _ => True) (fun _ U o U' => ∃ v L, o = .returned v ∧ Q_rm3_3 Z a vs h0 n0 v U'.heap L ∧ FrameEnd U o U' L ({ frames := 0, cells := 1, slots := 4, locals := 0 } : Room).cells ({ frames := 0, cells := 1, slots := 4, locals := 0 } : Room).slots) := by
  refine MetFree.of_bodySF (plainFor_of_name own_pn0) hisR ?_
  intro p e s m args below meth c s₁ Bd hml0 hP hK
  obtain ⟨rfl, hZ, hh⟩ := hP
  have hx := Bd.exec
  have hby := Bd.bytes
  have hml : c.maxLocals = 2 := hml0
  have hlk : meth.locks = false := BodyLoose.notSynchronized Bd
  have hown : s.vm.findClass "com/example/treebound/treebound/SortedSetsUnionPinLaw" = some m.cls := findClass_of_methodNamed Bd.named
  have hnm := (name_of_methodNamed Bd.named Bd.method).1
  have X0 : Stand p l e ({ frames := 0, cells := 1, slots := 4, locals := 0 } : Room) s m #[(.ref a), (.int (3 : Int32))] below meth c s₁ [] 0 0 := Stand.of_body Bd
  have e0 : s₁.heap = h0 := by rw [← hh, Bd.state]; rfl
  have N0 := Fr.nil n0
  show own_Go p e below s (Q_rm3_3 Z a vs h0 n0) 1 4 (s₁.setTop (entryFrame m #[(.ref a), (.int (3 : Int32))] 2))
  refine own_go (B := s₁.setTop (mkF m 0 #[.val (.ref a), .val (.int (3 : Int32))] [])) (fun tgt cont => (XT.entry rfl).trans cont) ?_
  refine own_go (B := s₁.setTop (mkF m 46 #[.val (.ref a), .val (.int (3 : Int32))] [(.int (3 : Int32)), (.int (3 : Int32))])) (fun tgt cont => ?_) ?_
  · refine XS.iloadN X0.here hx rfl (hb hby d3_0) rfl ?_
    refine XS.ifYes X0.here hx rfl (pc0 := 1) (pc' := 8) rfl (hb hby d3_1) rfl (XT.i0_ne_t (by decide)) (by decide) (by decide) ?_
    refine XS.iloadN X0.here hx rfl (hb hby d3_8) rfl ?_
    refine XT.iconstV X0.here hx rfl (1 : Int32) (hb hby d3_9) rfl ?_
    refine XS.icmpYes X0.here hx rfl (pc0 := 10) (pc' := 23) rfl (hb hby d3_10) rfl (XT.ii_ne_t (by decide)) (by decide) (by decide) ?_
    refine XS.iloadN X0.here hx rfl (hb hby d3_23) rfl ?_
    refine XT.iconstV X0.here hx rfl (2 : Int32) (hb hby d3_24) rfl ?_
    refine XS.icmpYes X0.here hx rfl (pc0 := 25) (pc' := 44) rfl (hb hby d3_25) rfl (XT.ii_ne_t (by decide)) (by decide) (by decide) ?_
    refine XS.iloadN X0.here hx rfl (hb hby d3_44) rfl ?_
    refine XT.iconstV X0.here hx rfl (3 : Int32) (hb hby d3_45) rfl ?_
    exact cont
  refine own_go (B := s₁.setTop (mkF m 50 #[.val (.ref a), .val (.int (3 : Int32))] [(.int (3 : Int32))])) (fun tgt cont => ?_) ?_
  · refine XS.icmpNo X0.here hx rfl (hb hby d3_46) rfl (XT.ii_ne_f (by decide)) ?_
    refine XT.iconstV X0.here hx rfl (3 : Int32) (hb hby d3_49) rfl ?_
    exact cont
  obtain ⟨T1, h1, X1, e1, E1, A1, AE1, st1⟩ := own_newIA X0 hx hZ (hw _ (List.mem_of_getElem? (i := 7) rfl)) e0 (g := (mkF m 50 #[.val (.ref a), .val (.int (3 : Int32))] [(.int (3 : Int32))])) rfl (hb hby d3_50) rfl (by decide) (cap := 3) (by decide) (by decide) (by decide) (by decide)
  obtain ⟨b1, g1⟩ : ∃ z, z = h0.size := ⟨_, rfl⟩
  rw [← g1] at A1 AE1 st1
  have g_b1 : n0 ≤ b1 := Nat.le_trans Z0 (Nat.le_of_eq g1.symm)
  have sz_b1 : h0.size ≤ b1 := Nat.le_trans (Keep.refl h0 []).1 (Nat.le_of_eq g1.symm)
  have ne_a_b1 : a ≠ b1 := Nat.ne_of_lt (by rw [g1]; exact A_a.lt)
  have kk1 : Keep h0 h1 [] := (Keep.refl h0 []).ext E1
  have zp1 : n0 ≤ h1.size := Nat.le_trans Z0 kk1.1
  have A1v : own_IA Z h1 b1 [(0 : Int32), (0 : Int32), (0 : Int32)] := A1
  refine own_go (fun tgt cont => st1 tgt cont) ?_
  show own_Go p e below s (Q_rm3_3 Z a vs h0 n0) 1 4 (T1.setTop (mkF m 52 #[.val (.ref a), .val (.int (3 : Int32))] [(.ref b1)]))
  have f2 := (A_a.ext E1)
  refine own_go (B := T1.setTop (mkF m 57 #[.val (.ref a), .val (.int (3 : Int32))] [(.int (vs.getD (0 : Int32).toNatClampNeg 0)), (.int (0 : Int32)), (.ref b1), (.ref b1)])) (fun tgt cont => ?_) ?_
  · refine XS.dup X1.here hx rfl (hb hby d3_52) rfl rfl ?_
    refine XT.iconstV X1.here hx rfl (0 : Int32) (hb hby d3_53) rfl ?_
    refine XS.aloadN X1.here hx rfl (hb hby d3_54) rfl rfl ?_
    refine XT.iconstV X1.here hx rfl (0 : Int32) (hb hby d3_55) rfl ?_
    refine own_ldIA X1 hx hZ e1 f2 (j := (0 : Int32)) ⟨by decide, by rw [hl]; decide⟩ (g := (mkF m 56 #[.val (.ref a), .val (.int (3 : Int32))] [(.int (0 : Int32)), (.ref a), (.int (0 : Int32)), (.ref b1), (.ref b1)])) rfl rfl (hb hby d3_56) ?_
    exact cont
  obtain ⟨T3, h3, X3, e3, W3, A3, st3⟩ := own_stIA X1 hx hZ e1 A1v (j := (0 : Int32)) (x := (vs.getD (0 : Int32).toNatClampNeg 0)) ⟨by decide, Nat.le_of_ble_eq_true rfl⟩ (g := (mkF m 57 #[.val (.ref a), .val (.int (3 : Int32))] [(.int (vs.getD (0 : Int32).toNatClampNeg 0)), (.int (0 : Int32)), (.ref b1), (.ref b1)])) rfl rfl (hb hby d3_57)
  have N3 := Fr.snoc X3 N0 g_b1
  have kk3 : Keep h0 h3 [] := kk1.wr W3 (Or.inr sz_b1)
  have zp3 : n0 ≤ h3.size := Nat.le_trans Z0 kk3.1
  have A3v : own_IA Z h3 b1 [(vs.getD (0 : Int32).toNatClampNeg 0), (0 : Int32), (0 : Int32)] := A3
  refine own_go (fun tgt cont => st3 tgt cont) ?_
  show own_Go p e below s (Q_rm3_3 Z a vs h0 n0) 1 4 (T3.setTop (mkF m 58 #[.val (.ref a), .val (.int (3 : Int32))] [(.ref b1)]))
  have f4 := (f2.other W3 ne_a_b1)
  refine own_go (B := T3.setTop (mkF m 63 #[.val (.ref a), .val (.int (3 : Int32))] [(.int (vs.getD (1 : Int32).toNatClampNeg 0)), (.int (1 : Int32)), (.ref b1), (.ref b1)])) (fun tgt cont => ?_) ?_
  · refine XS.dup X3.here hx rfl (hb hby d3_58) rfl rfl ?_
    refine XT.iconstV X3.here hx rfl (1 : Int32) (hb hby d3_59) rfl ?_
    refine XS.aloadN X3.here hx rfl (hb hby d3_60) rfl rfl ?_
    refine XT.iconstV X3.here hx rfl (1 : Int32) (hb hby d3_61) rfl ?_
    refine own_ldIA X3 hx hZ e3 f4 (j := (1 : Int32)) ⟨by decide, by rw [hl]; decide⟩ (g := (mkF m 62 #[.val (.ref a), .val (.int (3 : Int32))] [(.int (1 : Int32)), (.ref a), (.int (1 : Int32)), (.ref b1), (.ref b1)])) rfl rfl (hb hby d3_62) ?_
    exact cont
  obtain ⟨T5, h5, X5, e5, W5, A5, st5⟩ := own_stIA X3 hx hZ e3 A3v (j := (1 : Int32)) (x := (vs.getD (1 : Int32).toNatClampNeg 0)) ⟨by decide, Nat.le_of_ble_eq_true rfl⟩ (g := (mkF m 63 #[.val (.ref a), .val (.int (3 : Int32))] [(.int (vs.getD (1 : Int32).toNatClampNeg 0)), (.int (1 : Int32)), (.ref b1), (.ref b1)])) rfl rfl (hb hby d3_63)
  have N5 := Fr.snoc X5 N3 g_b1
  have kk5 : Keep h0 h5 [] := kk3.wr W5 (Or.inr sz_b1)
  have zp5 : n0 ≤ h5.size := Nat.le_trans Z0 kk5.1
  have A5v : own_IA Z h5 b1 [(vs.getD (0 : Int32).toNatClampNeg 0), (vs.getD (1 : Int32).toNatClampNeg 0), (0 : Int32)] := A5
  refine own_go (fun tgt cont => st5 tgt cont) ?_
  show own_Go p e below s (Q_rm3_3 Z a vs h0 n0) 1 4 (T5.setTop (mkF m 64 #[.val (.ref a), .val (.int (3 : Int32))] [(.ref b1)]))
  have f6 := (f4.other W5 ne_a_b1)
  refine own_go (B := T5.setTop (mkF m 69 #[.val (.ref a), .val (.int (3 : Int32))] [(.int (vs.getD (2 : Int32).toNatClampNeg 0)), (.int (2 : Int32)), (.ref b1), (.ref b1)])) (fun tgt cont => ?_) ?_
  · refine XS.dup X5.here hx rfl (hb hby d3_64) rfl rfl ?_
    refine XT.iconstV X5.here hx rfl (2 : Int32) (hb hby d3_65) rfl ?_
    refine XS.aloadN X5.here hx rfl (hb hby d3_66) rfl rfl ?_
    refine XT.iconstV X5.here hx rfl (2 : Int32) (hb hby d3_67) rfl ?_
    refine own_ldIA X5 hx hZ e5 f6 (j := (2 : Int32)) ⟨by decide, by rw [hl]; decide⟩ (g := (mkF m 68 #[.val (.ref a), .val (.int (3 : Int32))] [(.int (2 : Int32)), (.ref a), (.int (2 : Int32)), (.ref b1), (.ref b1)])) rfl rfl (hb hby d3_68) ?_
    exact cont
  obtain ⟨T7, h7, X7, e7, W7, A7, st7⟩ := own_stIA X5 hx hZ e5 A5v (j := (2 : Int32)) (x := (vs.getD (2 : Int32).toNatClampNeg 0)) ⟨by decide, Nat.le_of_ble_eq_true rfl⟩ (g := (mkF m 69 #[.val (.ref a), .val (.int (3 : Int32))] [(.int (vs.getD (2 : Int32).toNatClampNeg 0)), (.int (2 : Int32)), (.ref b1), (.ref b1)])) rfl rfl (hb hby d3_69)
  have N7 := Fr.snoc X7 N5 g_b1
  have kk7 : Keep h0 h7 [] := kk5.wr W7 (Or.inr sz_b1)
  have zp7 : n0 ≤ h7.size := Nat.le_trans Z0 kk7.1
  have A7v : own_IA Z h7 b1 [(vs.getD (0 : Int32).toNatClampNeg 0), (vs.getD (1 : Int32).toNatClampNeg 0), (vs.getD (2 : Int32).toNatClampNeg 0)] := A7
  refine own_go (fun tgt cont => st7 tgt cont) ?_
  show own_Go p e below s (Q_rm3_3 Z a vs h0 n0) 1 4 (T7.setTop (mkF m 70 #[.val (.ref a), .val (.int (3 : Int32))] [(.ref b1)]))
  refine own_end X7 (v := some (.ref b1)) (fun h => by rw [Bd.returns] at h; cases h) hlk ?_ (by decide) (by decide) (fun fs hl => retOut X7 hx Bd.returns rfl (Or.inr (Or.inr (Or.inr (Or.inr ⟨rfl, rfl, rfl⟩)))) (hb hby d3_70) hl)
  have f8 := (((AE1.wr W3).wr W5).wr W7)
  rw [e7]
  exact ⟨_, rfl, N7, kk7, sz_b1, (A7v.cong (own_tk3 hl)), f8⟩
theorem own_tk4 {vs : List Int32} (h : vs.length = 4) : [vs.getD (0 : Int32).toNatClampNeg 0, vs.getD (1 : Int32).toNatClampNeg 0, vs.getD (2 : Int32).toNatClampNeg 0, vs.getD (3 : Int32).toNatClampNeg 0] = vs.take 4 := by
  obtain ⟨a, b, c, d, rfl⟩ := own_takes h
  rfl
def Q_rm3_4 (Z : State) (a : Addr) (vs : List Int32) (h0 : Heap) (n0 : Nat) (v : Option Value) (h : Heap) (L : List Loc) : Prop := ∃ b : Addr, v = some (.ref b) ∧ Fr n0 L ∧ Keep h0 h [] ∧ h0.size ≤ b ∧ own_IA Z h b (vs.take 4) ∧ Exa Z h b "[I"
theorem d3_71 : decode method_3_code 71 = .ok (.iconst 4, 1) := by decide +kernel
theorem d3_72 : decode method_3_code 72 = .ok (.newarray .int, 2) := by decide +kernel
theorem d3_74 : decode method_3_code 74 = .ok (.dup, 1) := by decide +kernel
theorem d3_75 : decode method_3_code 75 = .ok (.iconst 0, 1) := by decide +kernel
theorem d3_76 : decode method_3_code 76 = .ok (.aload_n 0, 1) := by decide +kernel
theorem d3_77 : decode method_3_code 77 = .ok (.iconst 0, 1) := by decide +kernel
theorem d3_78 : decode method_3_code 78 = .ok (.iaload, 1) := by decide +kernel
theorem d3_79 : decode method_3_code 79 = .ok (.iastore, 1) := by decide +kernel
theorem d3_80 : decode method_3_code 80 = .ok (.dup, 1) := by decide +kernel
theorem d3_81 : decode method_3_code 81 = .ok (.iconst 1, 1) := by decide +kernel
theorem d3_82 : decode method_3_code 82 = .ok (.aload_n 0, 1) := by decide +kernel
theorem d3_83 : decode method_3_code 83 = .ok (.iconst 1, 1) := by decide +kernel
theorem d3_84 : decode method_3_code 84 = .ok (.iaload, 1) := by decide +kernel
theorem d3_85 : decode method_3_code 85 = .ok (.iastore, 1) := by decide +kernel
theorem d3_86 : decode method_3_code 86 = .ok (.dup, 1) := by decide +kernel
theorem d3_87 : decode method_3_code 87 = .ok (.iconst 2, 1) := by decide +kernel
theorem d3_88 : decode method_3_code 88 = .ok (.aload_n 0, 1) := by decide +kernel
theorem d3_89 : decode method_3_code 89 = .ok (.iconst 2, 1) := by decide +kernel
theorem d3_90 : decode method_3_code 90 = .ok (.iaload, 1) := by decide +kernel
theorem d3_91 : decode method_3_code 91 = .ok (.iastore, 1) := by decide +kernel
theorem d3_92 : decode method_3_code 92 = .ok (.dup, 1) := by decide +kernel
theorem d3_93 : decode method_3_code 93 = .ok (.iconst 3, 1) := by decide +kernel
theorem d3_94 : decode method_3_code 94 = .ok (.aload_n 0, 1) := by decide +kernel
theorem d3_95 : decode method_3_code 95 = .ok (.iconst 3, 1) := by decide +kernel
theorem d3_96 : decode method_3_code 96 = .ok (.iaload, 1) := by decide +kernel
theorem d3_97 : decode method_3_code 97 = .ok (.iastore, 1) := by decide +kernel
theorem d3_98 : decode method_3_code 98 = .ok (.areturn, 1) := by decide +kernel
set_option maxRecDepth 65536 in
set_option maxHeartbeats 40000000 in
theorem rm3_4 (l : Launch) (Z : State) (a0 : Array Value) (hw : ∀ d ∈ tables_1, d.before a0 Z = true) (ws : List Jvm.Cond) (a : Addr) (vs : List Int32) (h0 : Heap) (n0 : Nat) (Z0 : n0 ≤ h0.size) (A_a : own_IA Z h0 a vs) (hl : vs.length = 4) :
    MetFree l (⟨"com/example/treebound/treebound/SortedSetsUnionPinLaw", "take", "([II)[I"⟩ : MethodName) (head1 (Jvm.Cond.code (⟨"com/example/treebound/treebound/SortedSetsUnionPinLaw", "take", "([II)[I"⟩ : MethodName) method_3_code 2 (some (.array .int)) :: ws) ({ frames := 0, cells := 1, slots := 4, locals := 0 } : Room)) (fun aa U => aa = #[(.ref a), (.int (4 : Int32))] ∧ Z.Warmed39 U.vm ∧ U.heap = h0) (fun _ _ _ _ _ => True) (fun _ U o U' => ∃ v L, o = .returned v ∧ Q_rm3_4 Z a vs h0 n0 v U'.heap L ∧ FrameEnd U o U' L ({ frames := 0, cells := 1, slots := 4, locals := 0 } : Room).cells ({ frames := 0, cells := 1, slots := 4, locals := 0 } : Room).slots) := by
  refine MetFree.of_bodySF (plainFor_of_name own_pn0) hisR ?_
  intro p e s m args below meth c s₁ Bd hml0 hP hK
  obtain ⟨rfl, hZ, hh⟩ := hP
  have hx := Bd.exec
  have hby := Bd.bytes
  have hml : c.maxLocals = 2 := hml0
  have hlk : meth.locks = false := BodyLoose.notSynchronized Bd
  have hown : s.vm.findClass "com/example/treebound/treebound/SortedSetsUnionPinLaw" = some m.cls := findClass_of_methodNamed Bd.named
  have hnm := (name_of_methodNamed Bd.named Bd.method).1
  have X0 : Stand p l e ({ frames := 0, cells := 1, slots := 4, locals := 0 } : Room) s m #[(.ref a), (.int (4 : Int32))] below meth c s₁ [] 0 0 := Stand.of_body Bd
  have e0 : s₁.heap = h0 := by rw [← hh, Bd.state]; rfl
  have N0 := Fr.nil n0
  show own_Go p e below s (Q_rm3_4 Z a vs h0 n0) 1 4 (s₁.setTop (entryFrame m #[(.ref a), (.int (4 : Int32))] 2))
  refine own_go (B := s₁.setTop (mkF m 0 #[.val (.ref a), .val (.int (4 : Int32))] [])) (fun tgt cont => (XT.entry rfl).trans cont) ?_
  refine own_go (B := s₁.setTop (mkF m 46 #[.val (.ref a), .val (.int (4 : Int32))] [(.int (3 : Int32)), (.int (4 : Int32))])) (fun tgt cont => ?_) ?_
  · refine XS.iloadN X0.here hx rfl (hb hby d3_0) rfl ?_
    refine XS.ifYes X0.here hx rfl (pc0 := 1) (pc' := 8) rfl (hb hby d3_1) rfl (XT.i0_ne_t (by decide)) (by decide) (by decide) ?_
    refine XS.iloadN X0.here hx rfl (hb hby d3_8) rfl ?_
    refine XT.iconstV X0.here hx rfl (1 : Int32) (hb hby d3_9) rfl ?_
    refine XS.icmpYes X0.here hx rfl (pc0 := 10) (pc' := 23) rfl (hb hby d3_10) rfl (XT.ii_ne_t (by decide)) (by decide) (by decide) ?_
    refine XS.iloadN X0.here hx rfl (hb hby d3_23) rfl ?_
    refine XT.iconstV X0.here hx rfl (2 : Int32) (hb hby d3_24) rfl ?_
    refine XS.icmpYes X0.here hx rfl (pc0 := 25) (pc' := 44) rfl (hb hby d3_25) rfl (XT.ii_ne_t (by decide)) (by decide) (by decide) ?_
    refine XS.iloadN X0.here hx rfl (hb hby d3_44) rfl ?_
    refine XT.iconstV X0.here hx rfl (3 : Int32) (hb hby d3_45) rfl ?_
    exact cont
  refine own_go (B := s₁.setTop (mkF m 72 #[.val (.ref a), .val (.int (4 : Int32))] [(.int (4 : Int32))])) (fun tgt cont => ?_) ?_
  · refine XS.icmpYes X0.here hx rfl (pc0 := 46) (pc' := 71) rfl (hb hby d3_46) rfl (XT.ii_ne_t (by decide)) (by decide) (by decide) ?_
    refine XT.iconstV X0.here hx rfl (4 : Int32) (hb hby d3_71) rfl ?_
    exact cont
  obtain ⟨T1, h1, X1, e1, E1, A1, AE1, st1⟩ := own_newIA X0 hx hZ (hw _ (List.mem_of_getElem? (i := 7) rfl)) e0 (g := (mkF m 72 #[.val (.ref a), .val (.int (4 : Int32))] [(.int (4 : Int32))])) rfl (hb hby d3_72) rfl (by decide) (cap := 4) (by decide) (by decide) (by decide) (by decide)
  obtain ⟨b1, g1⟩ : ∃ z, z = h0.size := ⟨_, rfl⟩
  rw [← g1] at A1 AE1 st1
  have g_b1 : n0 ≤ b1 := Nat.le_trans Z0 (Nat.le_of_eq g1.symm)
  have sz_b1 : h0.size ≤ b1 := Nat.le_trans (Keep.refl h0 []).1 (Nat.le_of_eq g1.symm)
  have ne_a_b1 : a ≠ b1 := Nat.ne_of_lt (by rw [g1]; exact A_a.lt)
  have kk1 : Keep h0 h1 [] := (Keep.refl h0 []).ext E1
  have zp1 : n0 ≤ h1.size := Nat.le_trans Z0 kk1.1
  have A1v : own_IA Z h1 b1 [(0 : Int32), (0 : Int32), (0 : Int32), (0 : Int32)] := A1
  refine own_go (fun tgt cont => st1 tgt cont) ?_
  show own_Go p e below s (Q_rm3_4 Z a vs h0 n0) 1 4 (T1.setTop (mkF m 74 #[.val (.ref a), .val (.int (4 : Int32))] [(.ref b1)]))
  have f2 := (A_a.ext E1)
  refine own_go (B := T1.setTop (mkF m 79 #[.val (.ref a), .val (.int (4 : Int32))] [(.int (vs.getD (0 : Int32).toNatClampNeg 0)), (.int (0 : Int32)), (.ref b1), (.ref b1)])) (fun tgt cont => ?_) ?_
  · refine XS.dup X1.here hx rfl (hb hby d3_74) rfl rfl ?_
    refine XT.iconstV X1.here hx rfl (0 : Int32) (hb hby d3_75) rfl ?_
    refine XS.aloadN X1.here hx rfl (hb hby d3_76) rfl rfl ?_
    refine XT.iconstV X1.here hx rfl (0 : Int32) (hb hby d3_77) rfl ?_
    refine own_ldIA X1 hx hZ e1 f2 (j := (0 : Int32)) ⟨by decide, by rw [hl]; decide⟩ (g := (mkF m 78 #[.val (.ref a), .val (.int (4 : Int32))] [(.int (0 : Int32)), (.ref a), (.int (0 : Int32)), (.ref b1), (.ref b1)])) rfl rfl (hb hby d3_78) ?_
    exact cont
  obtain ⟨T3, h3, X3, e3, W3, A3, st3⟩ := own_stIA X1 hx hZ e1 A1v (j := (0 : Int32)) (x := (vs.getD (0 : Int32).toNatClampNeg 0)) ⟨by decide, Nat.le_of_ble_eq_true rfl⟩ (g := (mkF m 79 #[.val (.ref a), .val (.int (4 : Int32))] [(.int (vs.getD (0 : Int32).toNatClampNeg 0)), (.int (0 : Int32)), (.ref b1), (.ref b1)])) rfl rfl (hb hby d3_79)
  have N3 := Fr.snoc X3 N0 g_b1
  have kk3 : Keep h0 h3 [] := kk1.wr W3 (Or.inr sz_b1)
  have zp3 : n0 ≤ h3.size := Nat.le_trans Z0 kk3.1
  have A3v : own_IA Z h3 b1 [(vs.getD (0 : Int32).toNatClampNeg 0), (0 : Int32), (0 : Int32), (0 : Int32)] := A3
  refine own_go (fun tgt cont => st3 tgt cont) ?_
  show own_Go p e below s (Q_rm3_4 Z a vs h0 n0) 1 4 (T3.setTop (mkF m 80 #[.val (.ref a), .val (.int (4 : Int32))] [(.ref b1)]))
  have f4 := (f2.other W3 ne_a_b1)
  refine own_go (B := T3.setTop (mkF m 85 #[.val (.ref a), .val (.int (4 : Int32))] [(.int (vs.getD (1 : Int32).toNatClampNeg 0)), (.int (1 : Int32)), (.ref b1), (.ref b1)])) (fun tgt cont => ?_) ?_
  · refine XS.dup X3.here hx rfl (hb hby d3_80) rfl rfl ?_
    refine XT.iconstV X3.here hx rfl (1 : Int32) (hb hby d3_81) rfl ?_
    refine XS.aloadN X3.here hx rfl (hb hby d3_82) rfl rfl ?_
    refine XT.iconstV X3.here hx rfl (1 : Int32) (hb hby d3_83) rfl ?_
    refine own_ldIA X3 hx hZ e3 f4 (j := (1 : Int32)) ⟨by decide, by rw [hl]; decide⟩ (g := (mkF m 84 #[.val (.ref a), .val (.int (4 : Int32))] [(.int (1 : Int32)), (.ref a), (.int (1 : Int32)), (.ref b1), (.ref b1)])) rfl rfl (hb hby d3_84) ?_
    exact cont
  obtain ⟨T5, h5, X5, e5, W5, A5, st5⟩ := own_stIA X3 hx hZ e3 A3v (j := (1 : Int32)) (x := (vs.getD (1 : Int32).toNatClampNeg 0)) ⟨by decide, Nat.le_of_ble_eq_true rfl⟩ (g := (mkF m 85 #[.val (.ref a), .val (.int (4 : Int32))] [(.int (vs.getD (1 : Int32).toNatClampNeg 0)), (.int (1 : Int32)), (.ref b1), (.ref b1)])) rfl rfl (hb hby d3_85)
  have N5 := Fr.snoc X5 N3 g_b1
  have kk5 : Keep h0 h5 [] := kk3.wr W5 (Or.inr sz_b1)
  have zp5 : n0 ≤ h5.size := Nat.le_trans Z0 kk5.1
  have A5v : own_IA Z h5 b1 [(vs.getD (0 : Int32).toNatClampNeg 0), (vs.getD (1 : Int32).toNatClampNeg 0), (0 : Int32), (0 : Int32)] := A5
  refine own_go (fun tgt cont => st5 tgt cont) ?_
  show own_Go p e below s (Q_rm3_4 Z a vs h0 n0) 1 4 (T5.setTop (mkF m 86 #[.val (.ref a), .val (.int (4 : Int32))] [(.ref b1)]))
  have f6 := (f4.other W5 ne_a_b1)
  refine own_go (B := T5.setTop (mkF m 91 #[.val (.ref a), .val (.int (4 : Int32))] [(.int (vs.getD (2 : Int32).toNatClampNeg 0)), (.int (2 : Int32)), (.ref b1), (.ref b1)])) (fun tgt cont => ?_) ?_
  · refine XS.dup X5.here hx rfl (hb hby d3_86) rfl rfl ?_
    refine XT.iconstV X5.here hx rfl (2 : Int32) (hb hby d3_87) rfl ?_
    refine XS.aloadN X5.here hx rfl (hb hby d3_88) rfl rfl ?_
    refine XT.iconstV X5.here hx rfl (2 : Int32) (hb hby d3_89) rfl ?_
    refine own_ldIA X5 hx hZ e5 f6 (j := (2 : Int32)) ⟨by decide, by rw [hl]; decide⟩ (g := (mkF m 90 #[.val (.ref a), .val (.int (4 : Int32))] [(.int (2 : Int32)), (.ref a), (.int (2 : Int32)), (.ref b1), (.ref b1)])) rfl rfl (hb hby d3_90) ?_
    exact cont
  obtain ⟨T7, h7, X7, e7, W7, A7, st7⟩ := own_stIA X5 hx hZ e5 A5v (j := (2 : Int32)) (x := (vs.getD (2 : Int32).toNatClampNeg 0)) ⟨by decide, Nat.le_of_ble_eq_true rfl⟩ (g := (mkF m 91 #[.val (.ref a), .val (.int (4 : Int32))] [(.int (vs.getD (2 : Int32).toNatClampNeg 0)), (.int (2 : Int32)), (.ref b1), (.ref b1)])) rfl rfl (hb hby d3_91)
  have N7 := Fr.snoc X7 N5 g_b1
  have kk7 : Keep h0 h7 [] := kk5.wr W7 (Or.inr sz_b1)
  have zp7 : n0 ≤ h7.size := Nat.le_trans Z0 kk7.1
  have A7v : own_IA Z h7 b1 [(vs.getD (0 : Int32).toNatClampNeg 0), (vs.getD (1 : Int32).toNatClampNeg 0), (vs.getD (2 : Int32).toNatClampNeg 0), (0 : Int32)] := A7
  refine own_go (fun tgt cont => st7 tgt cont) ?_
  show own_Go p e below s (Q_rm3_4 Z a vs h0 n0) 1 4 (T7.setTop (mkF m 92 #[.val (.ref a), .val (.int (4 : Int32))] [(.ref b1)]))
  have f8 := (f6.other W7 ne_a_b1)
  refine own_go (B := T7.setTop (mkF m 97 #[.val (.ref a), .val (.int (4 : Int32))] [(.int (vs.getD (3 : Int32).toNatClampNeg 0)), (.int (3 : Int32)), (.ref b1), (.ref b1)])) (fun tgt cont => ?_) ?_
  · refine XS.dup X7.here hx rfl (hb hby d3_92) rfl rfl ?_
    refine XT.iconstV X7.here hx rfl (3 : Int32) (hb hby d3_93) rfl ?_
    refine XS.aloadN X7.here hx rfl (hb hby d3_94) rfl rfl ?_
    refine XT.iconstV X7.here hx rfl (3 : Int32) (hb hby d3_95) rfl ?_
    refine own_ldIA X7 hx hZ e7 f8 (j := (3 : Int32)) ⟨by decide, by rw [hl]; decide⟩ (g := (mkF m 96 #[.val (.ref a), .val (.int (4 : Int32))] [(.int (3 : Int32)), (.ref a), (.int (3 : Int32)), (.ref b1), (.ref b1)])) rfl rfl (hb hby d3_96) ?_
    exact cont
  obtain ⟨T9, h9, X9, e9, W9, A9, st9⟩ := own_stIA X7 hx hZ e7 A7v (j := (3 : Int32)) (x := (vs.getD (3 : Int32).toNatClampNeg 0)) ⟨by decide, Nat.le_of_ble_eq_true rfl⟩ (g := (mkF m 97 #[.val (.ref a), .val (.int (4 : Int32))] [(.int (vs.getD (3 : Int32).toNatClampNeg 0)), (.int (3 : Int32)), (.ref b1), (.ref b1)])) rfl rfl (hb hby d3_97)
  have N9 := Fr.snoc X9 N7 g_b1
  have kk9 : Keep h0 h9 [] := kk7.wr W9 (Or.inr sz_b1)
  have zp9 : n0 ≤ h9.size := Nat.le_trans Z0 kk9.1
  have A9v : own_IA Z h9 b1 [(vs.getD (0 : Int32).toNatClampNeg 0), (vs.getD (1 : Int32).toNatClampNeg 0), (vs.getD (2 : Int32).toNatClampNeg 0), (vs.getD (3 : Int32).toNatClampNeg 0)] := A9
  refine own_go (fun tgt cont => st9 tgt cont) ?_
  show own_Go p e below s (Q_rm3_4 Z a vs h0 n0) 1 4 (T9.setTop (mkF m 98 #[.val (.ref a), .val (.int (4 : Int32))] [(.ref b1)]))
  refine own_end X9 (v := some (.ref b1)) (fun h => by rw [Bd.returns] at h; cases h) hlk ?_ (by decide) (by decide) (fun fs hl => retOut X9 hx Bd.returns rfl (Or.inr (Or.inr (Or.inr (Or.inr ⟨rfl, rfl, rfl⟩)))) (hb hby d3_98) hl)
  have f10 := ((((AE1.wr W3).wr W5).wr W7).wr W9)
  rw [e9]
  exact ⟨_, rfl, N9, kk9, sz_b1, (A9v.cong (own_tk4 hl)), f10⟩
def Q_rm3 (Z : State) (vs : List Int32) (k : Nat) (h0 : Heap) (n0 : Nat) (v : Option Value) (h : Heap) (L : List Loc) : Prop := ∃ b : Addr, v = some (.ref b) ∧ Fr n0 L ∧ Keep h0 h [] ∧ h0.size ≤ b ∧ own_IA Z h b (vs.take k) ∧ Exa Z h b "[I"
set_option maxRecDepth 65536 in
theorem rm3 (l : Launch) (Z : State) (a0 : Array Value) (hw : ∀ d ∈ tables_1, d.before a0 Z = true) (ws : List Jvm.Cond) (a : Addr) (vs : List Int32) (k : Nat) (h0 : Heap) (n0 : Nat) (Z0 : n0 ≤ h0.size) (A_a : own_IA Z h0 a vs) (hl : vs.length = 4) (hk : k ≤ 4) :
    MetFree l (⟨"com/example/treebound/treebound/SortedSetsUnionPinLaw", "take", "([II)[I"⟩ : MethodName) (head1 (Jvm.Cond.code (⟨"com/example/treebound/treebound/SortedSetsUnionPinLaw", "take", "([II)[I"⟩ : MethodName) method_3_code 2 (some (.array .int)) :: ws) ({ frames := 0, cells := 1, slots := 4, locals := 0 } : Room)) (fun aa U => aa = #[(.ref a), (.int (Int32.ofNat k))] ∧ Z.Warmed39 U.vm ∧ U.heap = h0) (fun _ _ _ _ _ => True) (fun _ U o U' => ∃ v L, o = .returned v ∧ Q_rm3 Z vs k h0 n0 v U'.heap L ∧ FrameEnd U o U' L ({ frames := 0, cells := 1, slots := 4, locals := 0 } : Room).cells ({ frames := 0, cells := 1, slots := 4, locals := 0 } : Room).slots) := by
  have h : k = 0 ∨ k = 1 ∨ k = 2 ∨ k = 3 ∨ k = 4 := by omega
  rcases h with rfl | rfl | rfl | rfl | rfl
  · exact rm3_0 l Z a0 hw ws a vs h0 n0 Z0 A_a hl
  · exact rm3_1 l Z a0 hw ws a vs h0 n0 Z0 A_a hl
  · exact rm3_2 l Z a0 hw ws a vs h0 n0 Z0 A_a hl
  · exact rm3_3 l Z a0 hw ws a vs h0 n0 Z0 A_a hl
  · exact rm3_4 l Z a0 hw ws a vs h0 n0 Z0 A_a hl
theorem own_ofNat_add {i j : Nat} : Int32.ofNat i + Int32.ofNat j = Int32.ofNat (i + j) := (Int32.ofNat_add i j).symm
theorem own_nn4 {n : Nat} (h : n ≤ 4) : ¬ Int32.ofNat n < 0 := (own_inN (n := 5) (by omega) (by decide)).1
theorem own_cap4 {n : Nat} (h : n ≤ 4) : (Int32.ofNat n).toNatClampNeg ≤ 4 := by rw [own_toN (by omega)]; exact h
theorem own_rep4 {n : Nat} (h : n ≤ 4) : (List.replicate (Int32.ofNat n).toNatClampNeg (0 : Int32)) = List.replicate n 0 := by rw [own_toN (by omega)]
theorem own_ltN {i n : Nat} (h : i < n) (hn : n < 2147483648) : Int32.ofNat i < Int32.ofNat n := by
  rw [Int32.lt_iff_toInt_lt, own_toI hn, own_toI (by omega)]; omega
def Q_rm4 (Z : State) (a : Addr) (b : Addr) (vs : List Int32) (us : List Int32) (h0 : Heap) (n0 : Nat) (v : Option Value) (h : Heap) (L : List Loc) : Prop := ∃ b : Addr, v = some (.ref b) ∧ Fr n0 L ∧ Keep h0 h [] ∧ h0.size ≤ b ∧ own_IA Z h b (own_mg (vs.length + us.length) vs us) ∧ Exa Z h b "[I"
theorem own_pn1 : plainName "com/example/treebound/treebound/SortedSets" = true := by first | (simp [plainName, overriddenIn]; done) | decide +kernel
theorem d4_0 : decode prog_44_method_4_code 0 = .ok (.aload_n 0, 1) := by decide +kernel
theorem d4_1 : decode prog_44_method_4_code 1 = .ok (.arraylength, 1) := by decide +kernel
theorem d4_2 : decode prog_44_method_4_code 2 = .ok (.aload_n 1, 1) := by decide +kernel
theorem d4_3 : decode prog_44_method_4_code 3 = .ok (.arraylength, 1) := by decide +kernel
theorem d4_4 : decode prog_44_method_4_code 4 = .ok (.iadd, 1) := by decide +kernel
theorem d4_5 : decode prog_44_method_4_code 5 = .ok (.newarray .int, 2) := by decide +kernel
theorem d4_7 : decode prog_44_method_4_code 7 = .ok (.astore_n 2, 1) := by decide +kernel
theorem d4_8 : decode prog_44_method_4_code 8 = .ok (.iconst 0, 1) := by decide +kernel
theorem d4_9 : decode prog_44_method_4_code 9 = .ok (.istore_n 3, 1) := by decide +kernel
theorem d4_10 : decode prog_44_method_4_code 10 = .ok (.iconst 0, 1) := by decide +kernel
theorem d4_11 : decode prog_44_method_4_code 11 = .ok (.istore 4, 2) := by decide +kernel
theorem d4_13 : decode prog_44_method_4_code 13 = .ok (.iconst 0, 1) := by decide +kernel
theorem d4_14 : decode prog_44_method_4_code 14 = .ok (.istore 5, 2) := by decide +kernel
theorem d4_16 : decode prog_44_method_4_code 16 = .ok (.iload 5, 2) := by decide +kernel
theorem d4_18 : decode prog_44_method_4_code 18 = .ok (.aload_n 2, 1) := by decide +kernel
theorem d4_19 : decode prog_44_method_4_code 19 = .ok (.arraylength, 1) := by decide +kernel
theorem d4_20 : decode prog_44_method_4_code 20 = .ok (.if_icmp .ge 56, 3) := by decide +kernel
theorem d4_23 : decode prog_44_method_4_code 23 = .ok (.iload 4, 2) := by decide +kernel
theorem d4_25 : decode prog_44_method_4_code 25 = .ok (.aload_n 1, 1) := by decide +kernel
theorem d4_26 : decode prog_44_method_4_code 26 = .ok (.arraylength, 1) := by decide +kernel
theorem d4_27 : decode prog_44_method_4_code 27 = .ok (.if_icmp .eq 19, 3) := by decide +kernel
theorem d4_30 : decode prog_44_method_4_code 30 = .ok (.iload_n 3, 1) := by decide +kernel
theorem d4_31 : decode prog_44_method_4_code 31 = .ok (.aload_n 0, 1) := by decide +kernel
theorem d4_32 : decode prog_44_method_4_code 32 = .ok (.arraylength, 1) := by decide +kernel
theorem d4_33 : decode prog_44_method_4_code 33 = .ok (.if_icmp .ge 26, 3) := by decide +kernel
theorem d4_36 : decode prog_44_method_4_code 36 = .ok (.aload_n 0, 1) := by decide +kernel
theorem d4_37 : decode prog_44_method_4_code 37 = .ok (.iload_n 3, 1) := by decide +kernel
theorem d4_38 : decode prog_44_method_4_code 38 = .ok (.iaload, 1) := by decide +kernel
theorem d4_39 : decode prog_44_method_4_code 39 = .ok (.aload_n 1, 1) := by decide +kernel
theorem d4_40 : decode prog_44_method_4_code 40 = .ok (.iload 4, 2) := by decide +kernel
theorem d4_42 : decode prog_44_method_4_code 42 = .ok (.iaload, 1) := by decide +kernel
theorem d4_43 : decode prog_44_method_4_code 43 = .ok (.if_icmp .ge 16, 3) := by decide +kernel
theorem d4_46 : decode prog_44_method_4_code 46 = .ok (.aload_n 2, 1) := by decide +kernel
theorem d4_47 : decode prog_44_method_4_code 47 = .ok (.iload 5, 2) := by decide +kernel
theorem d4_49 : decode prog_44_method_4_code 49 = .ok (.aload_n 0, 1) := by decide +kernel
theorem d4_50 : decode prog_44_method_4_code 50 = .ok (.iload_n 3, 1) := by decide +kernel
theorem d4_51 : decode prog_44_method_4_code 51 = .ok (.iaload, 1) := by decide +kernel
theorem d4_52 : decode prog_44_method_4_code 52 = .ok (.iastore, 1) := by decide +kernel
theorem d4_53 : decode prog_44_method_4_code 53 = .ok (.iinc 3 1, 3) := by decide +kernel
theorem d4_56 : decode prog_44_method_4_code 56 = .ok (.goto 14, 3) := by decide +kernel
theorem d4_59 : decode prog_44_method_4_code 59 = .ok (.aload_n 2, 1) := by decide +kernel
theorem d4_60 : decode prog_44_method_4_code 60 = .ok (.iload 5, 2) := by decide +kernel
theorem d4_62 : decode prog_44_method_4_code 62 = .ok (.aload_n 1, 1) := by decide +kernel
theorem d4_63 : decode prog_44_method_4_code 63 = .ok (.iload 4, 2) := by decide +kernel
theorem d4_65 : decode prog_44_method_4_code 65 = .ok (.iaload, 1) := by decide +kernel
theorem d4_66 : decode prog_44_method_4_code 66 = .ok (.iastore, 1) := by decide +kernel
theorem d4_67 : decode prog_44_method_4_code 67 = .ok (.iinc 4 1, 3) := by decide +kernel
theorem d4_70 : decode prog_44_method_4_code 70 = .ok (.iinc 5 1, 3) := by decide +kernel
theorem d4_73 : decode prog_44_method_4_code 73 = .ok (.goto (-57), 3) := by decide +kernel
theorem d4_76 : decode prog_44_method_4_code 76 = .ok (.aload_n 2, 1) := by decide +kernel
theorem d4_77 : decode prog_44_method_4_code 77 = .ok (.areturn, 1) := by decide +kernel
set_option maxRecDepth 65536 in
set_option maxHeartbeats 40000000 in
theorem rm4 (l : Launch) (Z : State) (a0 : Array Value) (hw : ∀ d ∈ tables_1, d.before a0 Z = true) (ws : List Jvm.Cond) (a : Addr) (b : Addr) (vs : List Int32) (us : List Int32) (h0 : Heap) (n0 : Nat) (Z0 : n0 ≤ h0.size) (A_a : own_IA Z h0 a vs) (A_b : own_IA Z h0 b us) (h4 : vs.length + us.length ≤ 4) :
    MetFree l (⟨"com/example/treebound/treebound/SortedSets", "union", "([I[I)[I"⟩ : MethodName) (head1 (Jvm.Cond.code (⟨"com/example/treebound/treebound/SortedSets", "union", "([I[I)[I"⟩ : MethodName) prog_44_method_4_code 6 (some (.array .int)) :: ws) ({ frames := 0, cells := 1, slots := 4, locals := 0 } : Room)) (fun aa U => aa = #[(.ref a), (.ref b)] ∧ Z.Warmed39 U.vm ∧ U.heap = h0) (fun _ _ _ _ _ => True) (fun _ U o U' => ∃ v L, o = .returned v ∧ Q_rm4 Z a b vs us h0 n0 v U'.heap L ∧ FrameEnd U o U' L ({ frames := 0, cells := 1, slots := 4, locals := 0 } : Room).cells ({ frames := 0, cells := 1, slots := 4, locals := 0 } : Room).slots) := by
  refine MetFree.of_bodySF (plainFor_of_name own_pn1) hisR ?_
  intro p e s m args below meth c s₁ Bd hml0 hP hK
  obtain ⟨rfl, hZ, hh⟩ := hP
  have hx := Bd.exec
  have hby := Bd.bytes
  have hml : c.maxLocals = 6 := hml0
  have hlk : meth.locks = false := BodyLoose.notSynchronized Bd
  have hown : s.vm.findClass "com/example/treebound/treebound/SortedSets" = some m.cls := findClass_of_methodNamed Bd.named
  have hnm := (name_of_methodNamed Bd.named Bd.method).1
  have X0 : Stand p l e ({ frames := 0, cells := 1, slots := 4, locals := 0 } : Room) s m #[(.ref a), (.ref b)] below meth c s₁ [] 0 0 := Stand.of_body Bd
  have e0 : s₁.heap = h0 := by rw [← hh, Bd.state]; rfl
  have N0 := Fr.nil n0
  show own_Go p e below s (Q_rm4 Z a b vs us h0 n0) 1 4 (s₁.setTop (entryFrame m #[(.ref a), (.ref b)] 6))
  refine own_go (B := s₁.setTop (mkF m 0 #[.val (.ref a), .val (.ref b), .unset, .unset, .unset, .unset] [])) (fun tgt cont => (XT.entry rfl).trans cont) ?_
  refine own_go (B := s₁.setTop (mkF m 5 #[.val (.ref a), .val (.ref b), .unset, .unset, .unset, .unset] [(.int ((Int32.ofNat vs.length) + (Int32.ofNat us.length)))])) (fun tgt cont => ?_) ?_
  · refine XS.aloadN X0.here hx rfl (hb hby d4_0) rfl rfl ?_
    refine own_lenIA X0 hx hZ e0 A_a (g := (mkF m 1 #[.val (.ref a), .val (.ref b), .unset, .unset, .unset, .unset] [(.ref a)])) rfl rfl (hb hby d4_1) ?_
    refine XS.aloadN X0.here hx rfl (hb hby d4_2) rfl rfl ?_
    refine own_lenIA X0 hx hZ e0 A_b (g := (mkF m 3 #[.val (.ref a), .val (.ref b), .unset, .unset, .unset, .unset] [(.ref b), (.int (Int32.ofNat vs.length))])) rfl rfl (hb hby d4_3) ?_
    refine XS.iadd X0.here hx rfl (hb hby d4_4) rfl ?_
    exact cont
  rw [own_ofNat_add]
  obtain ⟨T1, h1, X1, e1, E1, A1, AE1, st1⟩ := own_newIA X0 hx hZ (hw _ (List.mem_of_getElem? (i := 7) rfl)) e0 (g := (mkF m 5 #[.val (.ref a), .val (.ref b), .unset, .unset, .unset, .unset] [(.int (Int32.ofNat (vs.length + us.length)))])) rfl (hb hby d4_5) rfl (own_nn4 h4) (cap := 4) (own_cap4 h4) (by decide) (by decide) (by decide)
  obtain ⟨b1, g1⟩ : ∃ z, z = h0.size := ⟨_, rfl⟩
  rw [← g1] at A1 AE1 st1
  have g_b1 : n0 ≤ b1 := Nat.le_trans Z0 (Nat.le_of_eq g1.symm)
  have sz_b1 : h0.size ≤ b1 := Nat.le_trans (Keep.refl h0 []).1 (Nat.le_of_eq g1.symm)
  have ne_a_b1 : a ≠ b1 := Nat.ne_of_lt (by rw [g1]; exact A_a.lt)
  have ne_b_b1 : b ≠ b1 := Nat.ne_of_lt (by rw [g1]; exact A_b.lt)
  have kk1 : Keep h0 h1 [] := (Keep.refl h0 []).ext E1
  have zp1 : n0 ≤ h1.size := Nat.le_trans Z0 kk1.1
  have A1v : own_IA Z h1 b1 (List.replicate (vs.length + us.length) 0) := A1.cong (own_rep4 h4)
  refine own_go (fun tgt cont => st1 tgt cont) ?_
  show own_Go p e below s (Q_rm4 Z a b vs us h0 n0) 1 4 (T1.setTop (mkF m 7 #[.val (.ref a), .val (.ref b), .unset, .unset, .unset, .unset] [(.ref b1)]))
  refine own_go (B := T1.setTop (mkF m 16 #[.val (.ref a), .val (.ref b), .val (.ref b1), .val (.int (0 : Int32)), .val (.int (0 : Int32)), .val (.int (0 : Int32))] [])) (fun tgt cont => ?_) ?_
  · refine XS.astoreN X1.here hx rfl (hb hby d4_7) rfl rfl (l' := #[.val (.ref a), .val (.ref b), .val (.ref b1), .unset, .unset, .unset]) rfl ?_
    refine XT.iconstV X1.here hx rfl (0 : Int32) (hb hby d4_8) rfl ?_
    refine XS.istoreN X1.here hx rfl (hb hby d4_9) rfl (l' := #[.val (.ref a), .val (.ref b), .val (.ref b1), .val (.int (0 : Int32)), .unset, .unset]) rfl ?_
    refine XT.iconstV X1.here hx rfl (0 : Int32) (hb hby d4_10) rfl ?_
    refine XS.istore X1.here hx rfl (hb hby d4_11) rfl (l' := #[.val (.ref a), .val (.ref b), .val (.ref b1), .val (.int (0 : Int32)), .val (.int (0 : Int32)), .unset]) rfl ?_
    refine XT.iconstV X1.here hx rfl (0 : Int32) (hb hby d4_13) rfl ?_
    refine XS.istore X1.here hx rfl (hb hby d4_14) rfl (l' := #[.val (.ref a), .val (.ref b), .val (.ref b1), .val (.int (0 : Int32)), .val (.int (0 : Int32)), .val (.int (0 : Int32))]) rfl ?_
    exact cont
  have LP : ∀ (f i j : Nat) (T : State) (L : List Loc) (h : Heap) (qs : List Int32) (X : Stand p l e ({ frames := 0, cells := 1, slots := 4, locals := 0 } : Room) s m #[(.ref a), (.ref b)] below meth c T L 1 4) (eT : T.heap = h) (N : Fr n0 L) (kk : Keep h0 h []) (Aa : own_IA Z h a vs) (Ab : own_IA Z h b us) (Au : own_IA Z h b1 qs) (Eu : Exa Z h b1 "[I") (hl : qs.length = vs.length + us.length) (hi : i ≤ vs.length) (hj : j ≤ us.length) (hf : vs.length + us.length = i + j + f) (hq : qs.take (i + j) ++ own_mg f (vs.drop i) (us.drop j) = (own_mg (vs.length + us.length) vs us)), own_Go p e below s (Q_rm4 Z a b vs us h0 n0) 1 4 (T.setTop (mkF m 16 #[.val (.ref a), .val (.ref b), .val (.ref b1), .val (.int (Int32.ofNat i)), .val (.int (Int32.ofNat j)), .val (.int (Int32.ofNat (i + j)))] [])) := by
    intro f
    induction f with
    | zero =>
      intro i j T L h qs X eT N kk Aa Ab Au Eu hl hi hj hf hq
      have zp : n0 ≤ h.size := Nat.le_trans Z0 kk.1
      refine own_go (B := T.setTop (mkF m 77 #[.val (.ref a), .val (.ref b), .val (.ref b1), .val (.int (Int32.ofNat i)), .val (.int (Int32.ofNat j)), .val (.int (Int32.ofNat (i + j)))] [(.ref b1)])) (fun tgt cont => ?_) ?_
      · refine XS.iload X.here hx rfl (hb hby d4_16) rfl ?_
        refine XS.aloadN X.here hx rfl (hb hby d4_18) rfl rfl ?_
        refine own_lenIA X hx hZ eT Au (g := (mkF m 19 #[.val (.ref a), .val (.ref b), .val (.ref b1), .val (.int (Int32.ofNat i)), .val (.int (Int32.ofNat j)), .val (.int (Int32.ofNat (i + j)))] [(.ref b1), (.int (Int32.ofNat (i + j)))])) rfl rfl (hb hby d4_19) ?_
        refine XS.icmpYes X.here hx rfl (pc0 := 20) (pc' := 76) rfl (hb hby d4_20) rfl (XT.ii_ge_t (by rw [hl, hf]; exact fun q => absurd (own_ofNat_lt q (by have := Au.small; omega) (by omega)) (by omega))) (by decide) (by decide) ?_
        refine XS.aloadN X.here hx rfl (hb hby d4_76) rfl rfl ?_
        exact cont
      refine own_end X (v := some (.ref b1)) (fun h => by rw [Bd.returns] at h; cases h) hlk ?_ (by decide) (by decide) (fun fs hl => retOut X hx Bd.returns rfl (Or.inr (Or.inr (Or.inr (Or.inr ⟨rfl, rfl, rfl⟩)))) (hb hby d4_77) hl)
      rw [eT]
      exact ⟨_, rfl, N, kk, sz_b1, (Au.cong (by rw [List.take_of_length_le (by omega), List.drop_of_length_le (by omega), List.drop_of_length_le (by omega), own_mg_nil, List.append_nil] at hq; exact hq)), Eu⟩
    | succ f ih =>
      intro i j T L h qs X eT N kk Aa Ab Au Eu hl hi hj hf hq
      have zp : n0 ≤ h.size := Nat.le_trans Z0 kk.1
      refine own_go (B := T.setTop (mkF m 27 #[.val (.ref a), .val (.ref b), .val (.ref b1), .val (.int (Int32.ofNat i)), .val (.int (Int32.ofNat j)), .val (.int (Int32.ofNat (i + j)))] [(.int (Int32.ofNat us.length)), (.int (Int32.ofNat j))])) (fun tgt cont => ?_) ?_
      · refine XS.iload X.here hx rfl (hb hby d4_16) rfl ?_
        refine XS.aloadN X.here hx rfl (hb hby d4_18) rfl rfl ?_
        refine own_lenIA X hx hZ eT Au (g := (mkF m 19 #[.val (.ref a), .val (.ref b), .val (.ref b1), .val (.int (Int32.ofNat i)), .val (.int (Int32.ofNat j)), .val (.int (Int32.ofNat (i + j)))] [(.ref b1), (.int (Int32.ofNat (i + j)))])) rfl rfl (hb hby d4_19) ?_
        refine XS.icmpNo X.here hx rfl (hb hby d4_20) rfl (XT.ii_ge_f (by rw [hl, hf]; exact own_ltN (by omega) (by have := Au.small; omega))) ?_
        refine XS.iload X.here hx rfl (hb hby d4_23) rfl ?_
        refine XS.aloadN X.here hx rfl (hb hby d4_25) rfl rfl ?_
        refine own_lenIA X hx hZ eT Ab (g := (mkF m 26 #[.val (.ref a), .val (.ref b), .val (.ref b1), .val (.int (Int32.ofNat i)), .val (.int (Int32.ofNat j)), .val (.int (Int32.ofNat (i + j)))] [(.ref b), (.int (Int32.ofNat j))])) rfl rfl (hb hby d4_26) ?_
        exact cont
      by_cases hc2 : (Int32.ofNat j) = (Int32.ofNat us.length)
      ·
        refine own_go (B := T.setTop (mkF m 52 #[.val (.ref a), .val (.ref b), .val (.ref b1), .val (.int (Int32.ofNat i)), .val (.int (Int32.ofNat j)), .val (.int (Int32.ofNat (i + j)))] [(.int (vs.getD i 0)), (.int (Int32.ofNat (i + j))), (.ref b1)])) (fun tgt cont => ?_) ?_
        · refine XS.icmpYes X.here hx rfl (pc0 := 27) (pc' := 46) rfl (hb hby d4_27) rfl (XT.ii_eq_t hc2) (by decide) (by decide) ?_
          refine XS.aloadN X.here hx rfl (hb hby d4_46) rfl rfl ?_
          refine XS.iload X.here hx rfl (hb hby d4_47) rfl ?_
          refine XS.aloadN X.here hx rfl (hb hby d4_49) rfl rfl ?_
          refine XS.iloadN X.here hx rfl (hb hby d4_50) rfl ?_
          refine own_ldIAn X hx hZ eT Aa (i := i) (by have := own_ofNat_inj hc2 Ab.small hj; omega) (g := (mkF m 51 #[.val (.ref a), .val (.ref b), .val (.ref b1), .val (.int (Int32.ofNat i)), .val (.int (Int32.ofNat j)), .val (.int (Int32.ofNat (i + j)))] [(.int (Int32.ofNat i)), (.ref a), (.int (Int32.ofNat (i + j))), (.ref b1)])) rfl rfl (hb hby d4_51) ?_
          exact cont
        obtain ⟨T3, h3, X3, e3, W3, A3, st3⟩ := own_stIAn X hx hZ eT Au (i := (i + j)) (x := (vs.getD i 0)) (by omega) (g := (mkF m 52 #[.val (.ref a), .val (.ref b), .val (.ref b1), .val (.int (Int32.ofNat i)), .val (.int (Int32.ofNat j)), .val (.int (Int32.ofNat (i + j)))] [(.int (vs.getD i 0)), (.int (Int32.ofNat (i + j))), (.ref b1)])) rfl rfl (hb hby d4_52)
        have N3 := Fr.snoc X3 N g_b1
        have kk3 : Keep h0 h3 [] := kk.wr W3 (Or.inr sz_b1)
        have zp3 : n0 ≤ h3.size := Nat.le_trans Z0 kk3.1
        refine own_go (fun tgt cont => st3 tgt cont) ?_
        show own_Go p e below s (Q_rm4 Z a b vs us h0 n0) 1 4 (T3.setTop (mkF m 53 #[.val (.ref a), .val (.ref b), .val (.ref b1), .val (.int (Int32.ofNat i)), .val (.int (Int32.ofNat j)), .val (.int (Int32.ofNat (i + j)))] []))
        refine own_go (B := T3.setTop (mkF m 16 #[.val (.ref a), .val (.ref b), .val (.ref b1), .val (.int ((Int32.ofNat i) + (1 : Int32))), .val (.int (Int32.ofNat j)), .val (.int ((Int32.ofNat (i + j)) + (1 : Int32)))] [])) (fun tgt cont => ?_) ?_
        · refine XT.iincV X3.here hx rfl (1 : Int32) (hb hby d4_53) rfl rfl (l' := #[.val (.ref a), .val (.ref b), .val (.ref b1), .val (.int ((Int32.ofNat i) + (1 : Int32))), .val (.int (Int32.ofNat j)), .val (.int (Int32.ofNat (i + j)))]) rfl ?_
          refine XS.goto X3.here hx rfl (pc0 := 56) (pc' := 70) rfl (hb hby d4_56) (by decide) (by decide) ?_
          refine XT.iincV X3.here hx rfl (1 : Int32) (hb hby d4_70) rfl rfl (l' := #[.val (.ref a), .val (.ref b), .val (.ref b1), .val (.int ((Int32.ofNat i) + (1 : Int32))), .val (.int (Int32.ofNat j)), .val (.int ((Int32.ofNat (i + j)) + (1 : Int32)))]) rfl ?_
          refine XS.goto X3.here hx rfl (pc0 := 73) (pc' := 16) rfl (hb hby d4_73) (by decide) (by decide) ?_
          exact cont
        have f4 := (Aa.other W3 ne_a_b1)
        have f5 := (Ab.other W3 ne_b_b1)
        have f6 := (Eu.wr W3)
        rw [own_one, own_one]
        have ej : j = us.length := own_ofNat_inj hc2 Ab.small hj
        have qi : i < vs.length := by omega
        have dj : us.drop j = [] := List.drop_eq_nil_of_le (by omega)
        rw [own_drop vs qi, dj, own_mg] at hq
        have hq' : (qs.set (i + j) (vs.getD i 0)).take (i + 1 + j) ++ own_mg f (vs.drop (i + 1)) (us.drop j) = (own_mg (vs.length + us.length) vs us) := by rw [← hq, Nat.add_right_comm, own_take_set (by omega), dj, List.append_assoc]; rfl
        have eqx : i + j + 1 = i + 1 + j := Nat.add_right_comm _ _ _
        rw [eqx]
        exact ih (i + 1) j _ _ _ _ X3 e3 N3 kk3 f4 f5 A3 f6 (by rw [List.length_set]; exact hl) (by omega) hj (by omega) hq'
      ·
        refine own_go (B := T.setTop (mkF m 33 #[.val (.ref a), .val (.ref b), .val (.ref b1), .val (.int (Int32.ofNat i)), .val (.int (Int32.ofNat j)), .val (.int (Int32.ofNat (i + j)))] [(.int (Int32.ofNat vs.length)), (.int (Int32.ofNat i))])) (fun tgt cont => ?_) ?_
        · refine XS.icmpNo X.here hx rfl (hb hby d4_27) rfl (XT.ii_eq_f hc2) ?_
          refine XS.iloadN X.here hx rfl (hb hby d4_30) rfl ?_
          refine XS.aloadN X.here hx rfl (hb hby d4_31) rfl rfl ?_
          refine own_lenIA X hx hZ eT Aa (g := (mkF m 32 #[.val (.ref a), .val (.ref b), .val (.ref b1), .val (.int (Int32.ofNat i)), .val (.int (Int32.ofNat j)), .val (.int (Int32.ofNat (i + j)))] [(.ref a), (.int (Int32.ofNat i))])) rfl rfl (hb hby d4_32) ?_
          exact cont
        by_cases hc7 : (Int32.ofNat i) < (Int32.ofNat vs.length)
        ·
          refine own_go (B := T.setTop (mkF m 43 #[.val (.ref a), .val (.ref b), .val (.ref b1), .val (.int (Int32.ofNat i)), .val (.int (Int32.ofNat j)), .val (.int (Int32.ofNat (i + j)))] [(.int (us.getD j 0)), (.int (vs.getD i 0))])) (fun tgt cont => ?_) ?_
          · refine XS.icmpNo X.here hx rfl (hb hby d4_33) rfl (XT.ii_ge_f hc7) ?_
            refine XS.aloadN X.here hx rfl (hb hby d4_36) rfl rfl ?_
            refine XS.iloadN X.here hx rfl (hb hby d4_37) rfl ?_
            refine own_ldIAn X hx hZ eT Aa (i := i) (own_ofNat_lt hc7 Aa.small hi) (g := (mkF m 38 #[.val (.ref a), .val (.ref b), .val (.ref b1), .val (.int (Int32.ofNat i)), .val (.int (Int32.ofNat j)), .val (.int (Int32.ofNat (i + j)))] [(.int (Int32.ofNat i)), (.ref a)])) rfl rfl (hb hby d4_38) ?_
            refine XS.aloadN X.here hx rfl (hb hby d4_39) rfl rfl ?_
            refine XS.iload X.here hx rfl (hb hby d4_40) rfl ?_
            refine own_ldIAn X hx hZ eT Ab (i := j) (Nat.lt_of_le_of_ne hj (fun q => hc2 (congrArg Int32.ofNat q))) (g := (mkF m 42 #[.val (.ref a), .val (.ref b), .val (.ref b1), .val (.int (Int32.ofNat i)), .val (.int (Int32.ofNat j)), .val (.int (Int32.ofNat (i + j)))] [(.int (Int32.ofNat j)), (.ref b), (.int (vs.getD i 0))])) rfl rfl (hb hby d4_42) ?_
            exact cont
          by_cases hc8 : (vs.getD i 0) < (us.getD j 0)
          ·
            refine own_go (B := T.setTop (mkF m 52 #[.val (.ref a), .val (.ref b), .val (.ref b1), .val (.int (Int32.ofNat i)), .val (.int (Int32.ofNat j)), .val (.int (Int32.ofNat (i + j)))] [(.int (vs.getD i 0)), (.int (Int32.ofNat (i + j))), (.ref b1)])) (fun tgt cont => ?_) ?_
            · refine XS.icmpNo X.here hx rfl (hb hby d4_43) rfl (XT.ii_ge_f hc8) ?_
              refine XS.aloadN X.here hx rfl (hb hby d4_46) rfl rfl ?_
              refine XS.iload X.here hx rfl (hb hby d4_47) rfl ?_
              refine XS.aloadN X.here hx rfl (hb hby d4_49) rfl rfl ?_
              refine XS.iloadN X.here hx rfl (hb hby d4_50) rfl ?_
              refine own_ldIAn X hx hZ eT Aa (i := i) (own_ofNat_lt hc7 Aa.small hi) (g := (mkF m 51 #[.val (.ref a), .val (.ref b), .val (.ref b1), .val (.int (Int32.ofNat i)), .val (.int (Int32.ofNat j)), .val (.int (Int32.ofNat (i + j)))] [(.int (Int32.ofNat i)), (.ref a), (.int (Int32.ofNat (i + j))), (.ref b1)])) rfl rfl (hb hby d4_51) ?_
              exact cont
            obtain ⟨T9, h9, X9, e9, W9, A9, st9⟩ := own_stIAn X hx hZ eT Au (i := (i + j)) (x := (vs.getD i 0)) (by omega) (g := (mkF m 52 #[.val (.ref a), .val (.ref b), .val (.ref b1), .val (.int (Int32.ofNat i)), .val (.int (Int32.ofNat j)), .val (.int (Int32.ofNat (i + j)))] [(.int (vs.getD i 0)), (.int (Int32.ofNat (i + j))), (.ref b1)])) rfl rfl (hb hby d4_52)
            have N9 := Fr.snoc X9 N g_b1
            have kk9 : Keep h0 h9 [] := kk.wr W9 (Or.inr sz_b1)
            have zp9 : n0 ≤ h9.size := Nat.le_trans Z0 kk9.1
            refine own_go (fun tgt cont => st9 tgt cont) ?_
            show own_Go p e below s (Q_rm4 Z a b vs us h0 n0) 1 4 (T9.setTop (mkF m 53 #[.val (.ref a), .val (.ref b), .val (.ref b1), .val (.int (Int32.ofNat i)), .val (.int (Int32.ofNat j)), .val (.int (Int32.ofNat (i + j)))] []))
            refine own_go (B := T9.setTop (mkF m 16 #[.val (.ref a), .val (.ref b), .val (.ref b1), .val (.int ((Int32.ofNat i) + (1 : Int32))), .val (.int (Int32.ofNat j)), .val (.int ((Int32.ofNat (i + j)) + (1 : Int32)))] [])) (fun tgt cont => ?_) ?_
            · refine XT.iincV X9.here hx rfl (1 : Int32) (hb hby d4_53) rfl rfl (l' := #[.val (.ref a), .val (.ref b), .val (.ref b1), .val (.int ((Int32.ofNat i) + (1 : Int32))), .val (.int (Int32.ofNat j)), .val (.int (Int32.ofNat (i + j)))]) rfl ?_
              refine XS.goto X9.here hx rfl (pc0 := 56) (pc' := 70) rfl (hb hby d4_56) (by decide) (by decide) ?_
              refine XT.iincV X9.here hx rfl (1 : Int32) (hb hby d4_70) rfl rfl (l' := #[.val (.ref a), .val (.ref b), .val (.ref b1), .val (.int ((Int32.ofNat i) + (1 : Int32))), .val (.int (Int32.ofNat j)), .val (.int ((Int32.ofNat (i + j)) + (1 : Int32)))]) rfl ?_
              refine XS.goto X9.here hx rfl (pc0 := 73) (pc' := 16) rfl (hb hby d4_73) (by decide) (by decide) ?_
              exact cont
            have f10 := (Aa.other W9 ne_a_b1)
            have f11 := (Ab.other W9 ne_b_b1)
            have f12 := (Eu.wr W9)
            rw [own_one, own_one]
            have qi : i < vs.length := own_ofNat_lt hc7 Aa.small hi
            have qj : j < us.length := Nat.lt_of_le_of_ne hj (fun q => hc2 (congrArg Int32.ofNat q))
            rw [own_drop vs qi, own_drop us qj, own_mg, if_pos hc8, ← own_drop us qj] at hq
            have hq' : (qs.set (i + j) (vs.getD i 0)).take (i + 1 + j) ++ own_mg f (vs.drop (i + 1)) (us.drop j) = (own_mg (vs.length + us.length) vs us) := by rw [← hq, Nat.add_right_comm, own_take_set (by omega), List.append_assoc]; rfl
            have eqx : i + j + 1 = i + 1 + j := Nat.add_right_comm _ _ _
            rw [eqx]
            exact ih (i + 1) j _ _ _ _ X9 e9 N9 kk9 f10 f11 A9 f12 (by rw [List.length_set]; exact hl) (by omega) hj (by omega) hq'
          ·
            refine own_go (B := T.setTop (mkF m 66 #[.val (.ref a), .val (.ref b), .val (.ref b1), .val (.int (Int32.ofNat i)), .val (.int (Int32.ofNat j)), .val (.int (Int32.ofNat (i + j)))] [(.int (us.getD j 0)), (.int (Int32.ofNat (i + j))), (.ref b1)])) (fun tgt cont => ?_) ?_
            · refine XS.icmpYes X.here hx rfl (pc0 := 43) (pc' := 59) rfl (hb hby d4_43) rfl (XT.ii_ge_t hc8) (by decide) (by decide) ?_
              refine XS.aloadN X.here hx rfl (hb hby d4_59) rfl rfl ?_
              refine XS.iload X.here hx rfl (hb hby d4_60) rfl ?_
              refine XS.aloadN X.here hx rfl (hb hby d4_62) rfl rfl ?_
              refine XS.iload X.here hx rfl (hb hby d4_63) rfl ?_
              refine own_ldIAn X hx hZ eT Ab (i := j) (Nat.lt_of_le_of_ne hj (fun q => hc2 (congrArg Int32.ofNat q))) (g := (mkF m 65 #[.val (.ref a), .val (.ref b), .val (.ref b1), .val (.int (Int32.ofNat i)), .val (.int (Int32.ofNat j)), .val (.int (Int32.ofNat (i + j)))] [(.int (Int32.ofNat j)), (.ref b), (.int (Int32.ofNat (i + j))), (.ref b1)])) rfl rfl (hb hby d4_65) ?_
              exact cont
            obtain ⟨T13, h13, X13, e13, W13, A13, st13⟩ := own_stIAn X hx hZ eT Au (i := (i + j)) (x := (us.getD j 0)) (by omega) (g := (mkF m 66 #[.val (.ref a), .val (.ref b), .val (.ref b1), .val (.int (Int32.ofNat i)), .val (.int (Int32.ofNat j)), .val (.int (Int32.ofNat (i + j)))] [(.int (us.getD j 0)), (.int (Int32.ofNat (i + j))), (.ref b1)])) rfl rfl (hb hby d4_66)
            have N13 := Fr.snoc X13 N g_b1
            have kk13 : Keep h0 h13 [] := kk.wr W13 (Or.inr sz_b1)
            have zp13 : n0 ≤ h13.size := Nat.le_trans Z0 kk13.1
            refine own_go (fun tgt cont => st13 tgt cont) ?_
            show own_Go p e below s (Q_rm4 Z a b vs us h0 n0) 1 4 (T13.setTop (mkF m 67 #[.val (.ref a), .val (.ref b), .val (.ref b1), .val (.int (Int32.ofNat i)), .val (.int (Int32.ofNat j)), .val (.int (Int32.ofNat (i + j)))] []))
            refine own_go (B := T13.setTop (mkF m 16 #[.val (.ref a), .val (.ref b), .val (.ref b1), .val (.int (Int32.ofNat i)), .val (.int ((Int32.ofNat j) + (1 : Int32))), .val (.int ((Int32.ofNat (i + j)) + (1 : Int32)))] [])) (fun tgt cont => ?_) ?_
            · refine XT.iincV X13.here hx rfl (1 : Int32) (hb hby d4_67) rfl rfl (l' := #[.val (.ref a), .val (.ref b), .val (.ref b1), .val (.int (Int32.ofNat i)), .val (.int ((Int32.ofNat j) + (1 : Int32))), .val (.int (Int32.ofNat (i + j)))]) rfl ?_
              refine XT.iincV X13.here hx rfl (1 : Int32) (hb hby d4_70) rfl rfl (l' := #[.val (.ref a), .val (.ref b), .val (.ref b1), .val (.int (Int32.ofNat i)), .val (.int ((Int32.ofNat j) + (1 : Int32))), .val (.int ((Int32.ofNat (i + j)) + (1 : Int32)))]) rfl ?_
              refine XS.goto X13.here hx rfl (pc0 := 73) (pc' := 16) rfl (hb hby d4_73) (by decide) (by decide) ?_
              exact cont
            have f14 := (Aa.other W13 ne_a_b1)
            have f15 := (Ab.other W13 ne_b_b1)
            have f16 := (Eu.wr W13)
            rw [own_one, own_one]
            have qj : j < us.length := Nat.lt_of_le_of_ne hj (fun q => hc2 (congrArg Int32.ofNat q))
            have qi : i < vs.length := own_ofNat_lt hc7 Aa.small hi
            rw [own_drop vs qi, own_drop us qj, own_mg, if_neg hc8, ← own_drop vs qi] at hq
            have hq' : (qs.set (i + j) (us.getD j 0)).take (i + (j + 1)) ++ own_mg f (vs.drop i) (us.drop (j + 1)) = (own_mg (vs.length + us.length) vs us) := by rw [← hq, ← Nat.add_assoc, own_take_set (by omega), List.append_assoc]; rfl
            rw [Nat.add_assoc]
            exact ih i (j + 1) _ _ _ _ X13 e13 N13 kk13 f14 f15 A13 f16 (by rw [List.length_set]; exact hl) hi (by omega) (by omega) hq'
        ·
          refine own_go (B := T.setTop (mkF m 66 #[.val (.ref a), .val (.ref b), .val (.ref b1), .val (.int (Int32.ofNat i)), .val (.int (Int32.ofNat j)), .val (.int (Int32.ofNat (i + j)))] [(.int (us.getD j 0)), (.int (Int32.ofNat (i + j))), (.ref b1)])) (fun tgt cont => ?_) ?_
          · refine XS.icmpYes X.here hx rfl (pc0 := 33) (pc' := 59) rfl (hb hby d4_33) rfl (XT.ii_ge_t hc7) (by decide) (by decide) ?_
            refine XS.aloadN X.here hx rfl (hb hby d4_59) rfl rfl ?_
            refine XS.iload X.here hx rfl (hb hby d4_60) rfl ?_
            refine XS.aloadN X.here hx rfl (hb hby d4_62) rfl rfl ?_
            refine XS.iload X.here hx rfl (hb hby d4_63) rfl ?_
            refine own_ldIAn X hx hZ eT Ab (i := j) (Nat.lt_of_le_of_ne hj (fun q => hc2 (congrArg Int32.ofNat q))) (g := (mkF m 65 #[.val (.ref a), .val (.ref b), .val (.ref b1), .val (.int (Int32.ofNat i)), .val (.int (Int32.ofNat j)), .val (.int (Int32.ofNat (i + j)))] [(.int (Int32.ofNat j)), (.ref b), (.int (Int32.ofNat (i + j))), (.ref b1)])) rfl rfl (hb hby d4_65) ?_
            exact cont
          obtain ⟨T17, h17, X17, e17, W17, A17, st17⟩ := own_stIAn X hx hZ eT Au (i := (i + j)) (x := (us.getD j 0)) (by omega) (g := (mkF m 66 #[.val (.ref a), .val (.ref b), .val (.ref b1), .val (.int (Int32.ofNat i)), .val (.int (Int32.ofNat j)), .val (.int (Int32.ofNat (i + j)))] [(.int (us.getD j 0)), (.int (Int32.ofNat (i + j))), (.ref b1)])) rfl rfl (hb hby d4_66)
          have N17 := Fr.snoc X17 N g_b1
          have kk17 : Keep h0 h17 [] := kk.wr W17 (Or.inr sz_b1)
          have zp17 : n0 ≤ h17.size := Nat.le_trans Z0 kk17.1
          refine own_go (fun tgt cont => st17 tgt cont) ?_
          show own_Go p e below s (Q_rm4 Z a b vs us h0 n0) 1 4 (T17.setTop (mkF m 67 #[.val (.ref a), .val (.ref b), .val (.ref b1), .val (.int (Int32.ofNat i)), .val (.int (Int32.ofNat j)), .val (.int (Int32.ofNat (i + j)))] []))
          refine own_go (B := T17.setTop (mkF m 16 #[.val (.ref a), .val (.ref b), .val (.ref b1), .val (.int (Int32.ofNat i)), .val (.int ((Int32.ofNat j) + (1 : Int32))), .val (.int ((Int32.ofNat (i + j)) + (1 : Int32)))] [])) (fun tgt cont => ?_) ?_
          · refine XT.iincV X17.here hx rfl (1 : Int32) (hb hby d4_67) rfl rfl (l' := #[.val (.ref a), .val (.ref b), .val (.ref b1), .val (.int (Int32.ofNat i)), .val (.int ((Int32.ofNat j) + (1 : Int32))), .val (.int (Int32.ofNat (i + j)))]) rfl ?_
            refine XT.iincV X17.here hx rfl (1 : Int32) (hb hby d4_70) rfl rfl (l' := #[.val (.ref a), .val (.ref b), .val (.ref b1), .val (.int (Int32.ofNat i)), .val (.int ((Int32.ofNat j) + (1 : Int32))), .val (.int ((Int32.ofNat (i + j)) + (1 : Int32)))]) rfl ?_
            refine XS.goto X17.here hx rfl (pc0 := 73) (pc' := 16) rfl (hb hby d4_73) (by decide) (by decide) ?_
            exact cont
          have f18 := (Aa.other W17 ne_a_b1)
          have f19 := (Ab.other W17 ne_b_b1)
          have f20 := (Eu.wr W17)
          rw [own_one, own_one]
          have qj : j < us.length := Nat.lt_of_le_of_ne hj (fun q => hc2 (congrArg Int32.ofNat q))
          have ei : i = vs.length := Nat.le_antisymm hi (own_ofNat_nlt hc7 Aa.small hi)
          have di : vs.drop i = [] := List.drop_eq_nil_of_le (by omega)
          rw [own_drop us qj, di, own_mg] at hq
          have hq' : (qs.set (i + j) (us.getD j 0)).take (i + (j + 1)) ++ own_mg f (vs.drop i) (us.drop (j + 1)) = (own_mg (vs.length + us.length) vs us) := by rw [← hq, ← Nat.add_assoc, own_take_set (by omega), di, List.append_assoc]; rfl
          rw [Nat.add_assoc]
          exact ih i (j + 1) _ _ _ _ X17 e17 N17 kk17 f18 f19 A17 f20 (by rw [List.length_set]; exact hl) hi (by omega) (by omega) hq'
  have f21 := (A_a.ext E1)
  have f22 := (A_b.ext E1)
  exact LP _ 0 0 _ _ _ _ (own_wide X1 (by decide) (by decide)) e1 N0 kk1 f21 f22 A1v AE1 (List.length_replicate ..) (Nat.zero_le _) (Nat.zero_le _) (by omega) rfl
theorem own_and3 (x : Int32) : (x &&& 3) = 0 ∨ (x &&& 3) = 1 ∨ (x &&& 3) = 2 ∨ (x &&& 3) = 3 := by
  have h := c_mask x 3 2 (by decide) (by decide)
  have e0 : (0 : Int32).toInt = 0 := rfl
  have e1 : (1 : Int32).toInt = 1 := rfl
  have e2 : (2 : Int32).toInt = 2 := rfl
  have e3 : (3 : Int32).toInt = 3 := rfl
  simp only [← Int32.toInt_inj, e0, e1, e2, e3]
  generalize (x &&& 3).toInt = y at *
  omega
theorem own_len_at {qs S : List Int32} {n : Nat} (h : qs.take n = S) (hl : qs.length = 4) (hn : n ≤ 4) : S.length = n := by
  rw [← h, List.length_take]; omega
theorem own_get_at {qs S : List Int32} {n k : Nat} (h : qs.take n = S) (hk : k < n) : S.getD k 0 = qs.getD k 0 := by
  rw [← h, List.getD_eq_getElem?_getD, List.getD_eq_getElem?_getD, List.getElem?_take_of_lt hk]
theorem own_tr {x y z : Int32} (h : x < y) (k : y < z) : x < z := by rw [Int32.lt_iff_toInt_lt] at *; omega
theorem own_ge {n m : Nat} {k : Int32} (h : ¬ Int32.ofNat n < k) (hk : k.toInt = (m : Int)) (hn : n < 2147483648) : m ≤ n := by
  rw [Int32.lt_iff_toInt_lt, own_toI hn, hk] at h; omega
theorem own_rb {w qs : List Int32} {n : Nat} {j k : Int32} (hU : w = qs.take n) (le : qs.length = 4) (hn : n ≤ 4) (h : ¬ Int32.ofNat n < k) (hj : ¬ j < 0) (hjk : ((j.toNatClampNeg : Nat) : Int) + 1 = k.toInt) : ¬ j < 0 ∧ j.toNatClampNeg < w.length := by
  have q := own_ge h (m := j.toNatClampNeg + 1) (by rw [← hjk]; rfl) (by omega)
  refine ⟨hj, ?_⟩
  rw [hU, List.length_take, le]
  generalize j.toNatClampNeg = y at *
  omega
theorem own_rq {w qs : List Int32} {n : Nat} {j k : Int32} (hU : w = qs.take n) (hn : n ≤ 4) (h : ¬ Int32.ofNat n < k) (hjk : ((j.toNatClampNeg : Nat) : Int) + 1 = k.toInt) : w.getD j.toNatClampNeg 0 = qs.getD j.toNatClampNeg 0 := by
  have q := own_ge h (m := j.toNatClampNeg + 1) (by rw [← hjk]; rfl) (by omega)
  exact own_get_at hU.symm (by generalize j.toNatClampNeg = y at *; omega)
theorem own_eb {qs : List Int32} {j : Int32} (le : qs.length = 4) (hj : ¬ j < 0) (h : j.toNatClampNeg < 4) : ¬ j < 0 ∧ j.toNatClampNeg < qs.length := ⟨hj, by rw [le]; exact h⟩
theorem own_rl {w qs : List Int32} {n : Nat} (hU : w = qs.take n) (le : qs.length = 4) (hn : n ≤ 4) : Int32.ofNat w.length = Int32.ofNat n := by
  have q : w.length = n := by rw [hU, List.length_take]; omega
  rw [q]
def Q0 (n0 : Nat) (v : Option Value) (h : Heap) (L : List Loc) : Prop := v = some (.int (1 : Int32)) ∧ Fr n0 L
theorem own_pd0 : parseMethodDescriptor "(II)I" = some ⟨[.int, .int], some .int⟩ := by decide +kernel
theorem own_pd1 : parseMethodDescriptor "([II)[I" = some ⟨[(.array .int), .int], some (.array .int)⟩ := by decide +kernel
theorem own_pd2 : parseMethodDescriptor "([I[I)[I" = some ⟨[(.array .int), (.array .int)], some (.array .int)⟩ := by decide +kernel
set_option maxRecDepth 65536 in
set_option maxHeartbeats 40000000 in
theorem rm0 (l : Launch) (Z : State) (a0 : Array Value) (hw : ∀ d ∈ tables_1, d.before a0 Z = true) (ws : List Jvm.Cond) (p1 : Int32) (p2 : Int32) (p3 : Int32) (p4 : Int32) (p5 : Int32) (h0 : Heap) (n0 : Nat) (Z0 : n0 ≤ h0.size)  :
    MetFree l x (head1 (Jvm.Cond.code x code maxLocals ret :: ws) room_1) (fun aa U => aa = #[(.int p1), (.int p2), (.int p3), (.int p4), (.int p5)] ∧ Z.Warmed39 U.vm ∧ U.heap = h0) (fun _ _ _ _ _ => True) (fun _ U o U' => ∃ v L, o = .returned v ∧ Q0 n0 v U'.heap L ∧ FrameEnd U o U' L room_1.cells room_1.slots) := by
  refine MetFree.of_bodySF (plainFor_of_name own_pn0) hisR ?_
  intro p e s m args below meth c s₁ Bd hml0 hP hK
  obtain ⟨rfl, hZ, hh⟩ := hP
  have hx := Bd.exec
  have hby := Bd.bytes
  have hml : c.maxLocals = 28 := hml0
  have hlk : meth.locks = false := BodyLoose.notSynchronized Bd
  have hown : s.vm.findClass "com/example/treebound/treebound/SortedSetsUnionPinLaw" = some m.cls := findClass_of_methodNamed Bd.named
  have hnm := (name_of_methodNamed Bd.named Bd.method).1
  have X0 : Stand p l e room_1 s m #[(.int p1), (.int p2), (.int p3), (.int p4), (.int p5)] below meth c s₁ [] 0 0 := Stand.of_body Bd
  have e0 : s₁.heap = h0 := by rw [← hh, Bd.state]; rfl
  have N0 := Fr.nil n0
  show own_Go p e below s (Q0 n0) room_1.cells room_1.slots (s₁.setTop (entryFrame m #[(.int p1), (.int p2), (.int p3), (.int p4), (.int p5)] maxLocals))
  refine own_go (B := s₁.setTop (mkF m 0 #[.val (.int p1), .val (.int p2), .val (.int p3), .val (.int p4), .val (.int p5), .unset, .unset, .unset, .unset, .unset, .unset, .unset, .unset, .unset, .unset, .unset, .unset, .unset, .unset, .unset, .unset, .unset, .unset, .unset, .unset, .unset, .unset, .unset] [])) (fun tgt cont => (XT.entry rfl).trans cont) ?_
  refine own_go (B := s₁.setTop (mkF m 2 #[.val (.int p1), .val (.int p2), .val (.int p3), .val (.int p4), .val (.int p5), .unset, .unset, .unset, .unset, .unset, .unset, .unset, .unset, .unset, .unset, .unset, .unset, .unset, .unset, .unset, .unset, .unset, .unset, .unset, .unset, .unset, .unset, .unset] [(.int p2), (.int p1)])) (fun tgt cont => ?_) ?_
  · refine XS.iloadN X0.here hx rfl (hb hby at_0) rfl ?_
    refine XS.iloadN X0.here hx rfl (hb hby at_1) rfl ?_
    exact cont
  -- pc 2: Math.min
  obtain ⟨_, _, ⟨T1, L1, k1, n1⟩, -, X1, ⟨Lc1, hQ1, l1, y1, z1⟩, st1⟩ := Jvm.LawKit.callS X0 hx (y := (⟨"java/lang/Math", "min", "(II)I"⟩ : MethodName)) hown (mvT hZ (hw _ (List.mem_of_getElem? (i := 0) rfl))) (mvT hZ (hw _ (List.mem_of_getElem? (i := 1) rfl))) (mvT hZ (hw _ (List.mem_of_getElem? (i := 2) rfl))) (mvT hZ (hw _ (List.mem_of_getElem? (i := 3) rfl))) (by decide) (backOf (W := 0) (rm1 l Z a0 hw [] p1 p2 h0 n0 Z0 ) hZ (hw _ (List.mem_of_getElem? (i := 3) rfl)) (hw _ (List.mem_of_getElem? (i := 2) rfl)) (by decide) (by decide)) (g := (mkF m 2 #[.val (.int p1), .val (.int p2), .val (.int p3), .val (.int p4), .val (.int p5), .unset, .unset, .unset, .unset, .unset, .unset, .unset, .unset, .unset, .unset, .unset, .unset, .unset, .unset, .unset, .unset, .unset, .unset, .unset, .unset, .unset, .unset, .unset] [(.int p2), (.int p1)])) rfl (by rw [hml]; rfl) (argsL := [(.int p1), (.int p2)]) (rest := []) (lenOf own_pd0 rfl) rfl (by show 2 * 0 + _ ≤ _; exact Nat.le_of_eq rfl) (hb hby at_2) (fun _ _ => ⟨rfl, e0, (by decide : 0 + 0 ≤ _), (by decide : 0 + 0 ≤ _)⟩)
  dsimp only [Pt.U, Pt.locs, Pt.cells, Pt.slots] at X1 l1 y1 z1 st1 hQ1
  subst l1 y1 z1
  obtain ⟨rfl, N1q, e1⟩ := hQ1
  have N1 := Fr.app N0 N1q
  refine own_go (fun tgt cont => st1 tgt cont) ?_
  show own_Go p e below s (Q0 n0) room_1.cells room_1.slots (T1.setTop (mkF m 5 #[.val (.int p1), .val (.int p2), .val (.int p3), .val (.int p4), .val (.int p5), .unset, .unset, .unset, .unset, .unset, .unset, .unset, .unset, .unset, .unset, .unset, .unset, .unset, .unset, .unset, .unset, .unset, .unset, .unset, .unset, .unset, .unset, .unset] [(.int (own_min p1 p2))]))
  generalize hr2 : (own_min p1 p2) = r2
  refine own_go (B := T1.setTop (mkF m 9 #[.val (.int p1), .val (.int p2), .val (.int p3), .val (.int p4), .val (.int p5), .val (.int r2), .unset, .unset, .unset, .unset, .unset, .unset, .unset, .unset, .unset, .unset, .unset, .unset, .unset, .unset, .unset, .unset, .unset, .unset, .unset, .unset, .unset, .unset] [(.int p2), (.int p1)])) (fun tgt cont => ?_) ?_
  · refine XS.istore X1.here hx rfl (hb hby at_5) rfl (l' := #[.val (.int p1), .val (.int p2), .val (.int p3), .val (.int p4), .val (.int p5), .val (.int r2), .unset, .unset, .unset, .unset, .unset, .unset, .unset, .unset, .unset, .unset, .unset, .unset, .unset, .unset, .unset, .unset, .unset, .unset, .unset, .unset, .unset, .unset]) rfl ?_
    refine XS.iloadN X1.here hx rfl (hb hby at_7) rfl ?_
    refine XS.iloadN X1.here hx rfl (hb hby at_8) rfl ?_
    exact cont
  -- pc 9: Math.max
  obtain ⟨_, _, ⟨T3, L3, k3, n3⟩, -, X3, ⟨Lc3, hQ3, l3, y3, z3⟩, st3⟩ := Jvm.LawKit.callS X1 hx (y := (⟨"java/lang/Math", "max", "(II)I"⟩ : MethodName)) hown (mvT hZ (hw _ (List.mem_of_getElem? (i := 4) rfl))) (mvT hZ (hw _ (List.mem_of_getElem? (i := 5) rfl))) (mvT hZ (hw _ (List.mem_of_getElem? (i := 2) rfl))) (mvT hZ (hw _ (List.mem_of_getElem? (i := 6) rfl))) (by decide) (backOf (W := 0) (rm2 l Z a0 hw [] p1 p2 h0 n0 Z0 ) hZ (hw _ (List.mem_of_getElem? (i := 6) rfl)) (hw _ (List.mem_of_getElem? (i := 2) rfl)) (by decide) (by decide)) (g := (mkF m 9 #[.val (.int p1), .val (.int p2), .val (.int p3), .val (.int p4), .val (.int p5), .val (.int r2), .unset, .unset, .unset, .unset, .unset, .unset, .unset, .unset, .unset, .unset, .unset, .unset, .unset, .unset, .unset, .unset, .unset, .unset, .unset, .unset, .unset, .unset] [(.int p2), (.int p1)])) rfl (by rw [hml]; rfl) (argsL := [(.int p1), (.int p2)]) (rest := []) (lenOf own_pd0 rfl) rfl (by show 2 * 0 + _ ≤ _; exact Nat.le_of_eq rfl) (hb hby at_9) (fun _ _ => ⟨rfl, e1, (by decide : 0 + 0 + 0 ≤ _), (by decide : 0 + 0 + 0 ≤ _)⟩)
  dsimp only [Pt.U, Pt.locs, Pt.cells, Pt.slots] at X3 l3 y3 z3 st3 hQ3
  subst l3 y3 z3
  obtain ⟨rfl, N3q, e3⟩ := hQ3
  have N3 := Fr.app N1 N3q
  refine own_go (fun tgt cont => st3 tgt cont) ?_
  show own_Go p e below s (Q0 n0) room_1.cells room_1.slots (T3.setTop (mkF m 12 #[.val (.int p1), .val (.int p2), .val (.int p3), .val (.int p4), .val (.int p5), .val (.int r2), .unset, .unset, .unset, .unset, .unset, .unset, .unset, .unset, .unset, .unset, .unset, .unset, .unset, .unset, .unset, .unset, .unset, .unset, .unset, .unset, .unset, .unset] [(.int (own_max p1 p2))]))
  generalize hr4 : (own_max p1 p2) = r4
  refine own_go (B := T3.setTop (mkF m 16 #[.val (.int p1), .val (.int p2), .val (.int p3), .val (.int p4), .val (.int p5), .val (.int r2), .val (.int r4), .unset, .unset, .unset, .unset, .unset, .unset, .unset, .unset, .unset, .unset, .unset, .unset, .unset, .unset, .unset, .unset, .unset, .unset, .unset, .unset, .unset] [(.int p4), (.int p3)])) (fun tgt cont => ?_) ?_
  · refine XS.istore X3.here hx rfl (hb hby at_12) rfl (l' := #[.val (.int p1), .val (.int p2), .val (.int p3), .val (.int p4), .val (.int p5), .val (.int r2), .val (.int r4), .unset, .unset, .unset, .unset, .unset, .unset, .unset, .unset, .unset, .unset, .unset, .unset, .unset, .unset, .unset, .unset, .unset, .unset, .unset, .unset, .unset]) rfl ?_
    refine XS.iloadN X3.here hx rfl (hb hby at_14) rfl ?_
    refine XS.iloadN X3.here hx rfl (hb hby at_15) rfl ?_
    exact cont
  -- pc 16: Math.min
  obtain ⟨_, _, ⟨T5, L5, k5, n5⟩, -, X5, ⟨Lc5, hQ5, l5, y5, z5⟩, st5⟩ := Jvm.LawKit.callS X3 hx (y := (⟨"java/lang/Math", "min", "(II)I"⟩ : MethodName)) hown (mvT hZ (hw _ (List.mem_of_getElem? (i := 0) rfl))) (mvT hZ (hw _ (List.mem_of_getElem? (i := 1) rfl))) (mvT hZ (hw _ (List.mem_of_getElem? (i := 2) rfl))) (mvT hZ (hw _ (List.mem_of_getElem? (i := 3) rfl))) (by decide) (backOf (W := 0) (rm1 l Z a0 hw [] p3 p4 h0 n0 Z0 ) hZ (hw _ (List.mem_of_getElem? (i := 3) rfl)) (hw _ (List.mem_of_getElem? (i := 2) rfl)) (by decide) (by decide)) (g := (mkF m 16 #[.val (.int p1), .val (.int p2), .val (.int p3), .val (.int p4), .val (.int p5), .val (.int r2), .val (.int r4), .unset, .unset, .unset, .unset, .unset, .unset, .unset, .unset, .unset, .unset, .unset, .unset, .unset, .unset, .unset, .unset, .unset, .unset, .unset, .unset, .unset] [(.int p4), (.int p3)])) rfl (by rw [hml]; rfl) (argsL := [(.int p3), (.int p4)]) (rest := []) (lenOf own_pd0 rfl) rfl (by show 2 * 0 + _ ≤ _; exact Nat.le_of_eq rfl) (hb hby at_16) (fun _ _ => ⟨rfl, e3, (by decide : 0 + 0 + 0 + 0 ≤ _), (by decide : 0 + 0 + 0 + 0 ≤ _)⟩)
  dsimp only [Pt.U, Pt.locs, Pt.cells, Pt.slots] at X5 l5 y5 z5 st5 hQ5
  subst l5 y5 z5
  obtain ⟨rfl, N5q, e5⟩ := hQ5
  have N5 := Fr.app N3 N5q
  refine own_go (fun tgt cont => st5 tgt cont) ?_
  show own_Go p e below s (Q0 n0) room_1.cells room_1.slots (T5.setTop (mkF m 19 #[.val (.int p1), .val (.int p2), .val (.int p3), .val (.int p4), .val (.int p5), .val (.int r2), .val (.int r4), .unset, .unset, .unset, .unset, .unset, .unset, .unset, .unset, .unset, .unset, .unset, .unset, .unset, .unset, .unset, .unset, .unset, .unset, .unset, .unset, .unset] [(.int (own_min p3 p4))]))
  generalize hr6 : (own_min p3 p4) = r6
  refine own_go (B := T5.setTop (mkF m 23 #[.val (.int p1), .val (.int p2), .val (.int p3), .val (.int p4), .val (.int p5), .val (.int r2), .val (.int r4), .val (.int r6), .unset, .unset, .unset, .unset, .unset, .unset, .unset, .unset, .unset, .unset, .unset, .unset, .unset, .unset, .unset, .unset, .unset, .unset, .unset, .unset] [(.int p4), (.int p3)])) (fun tgt cont => ?_) ?_
  · refine XS.istore X5.here hx rfl (hb hby at_19) rfl (l' := #[.val (.int p1), .val (.int p2), .val (.int p3), .val (.int p4), .val (.int p5), .val (.int r2), .val (.int r4), .val (.int r6), .unset, .unset, .unset, .unset, .unset, .unset, .unset, .unset, .unset, .unset, .unset, .unset, .unset, .unset, .unset, .unset, .unset, .unset, .unset, .unset]) rfl ?_
    refine XS.iloadN X5.here hx rfl (hb hby at_21) rfl ?_
    refine XS.iloadN X5.here hx rfl (hb hby at_22) rfl ?_
    exact cont
  -- pc 23: Math.max
  obtain ⟨_, _, ⟨T7, L7, k7, n7⟩, -, X7, ⟨Lc7, hQ7, l7, y7, z7⟩, st7⟩ := Jvm.LawKit.callS X5 hx (y := (⟨"java/lang/Math", "max", "(II)I"⟩ : MethodName)) hown (mvT hZ (hw _ (List.mem_of_getElem? (i := 4) rfl))) (mvT hZ (hw _ (List.mem_of_getElem? (i := 5) rfl))) (mvT hZ (hw _ (List.mem_of_getElem? (i := 2) rfl))) (mvT hZ (hw _ (List.mem_of_getElem? (i := 6) rfl))) (by decide) (backOf (W := 0) (rm2 l Z a0 hw [] p3 p4 h0 n0 Z0 ) hZ (hw _ (List.mem_of_getElem? (i := 6) rfl)) (hw _ (List.mem_of_getElem? (i := 2) rfl)) (by decide) (by decide)) (g := (mkF m 23 #[.val (.int p1), .val (.int p2), .val (.int p3), .val (.int p4), .val (.int p5), .val (.int r2), .val (.int r4), .val (.int r6), .unset, .unset, .unset, .unset, .unset, .unset, .unset, .unset, .unset, .unset, .unset, .unset, .unset, .unset, .unset, .unset, .unset, .unset, .unset, .unset] [(.int p4), (.int p3)])) rfl (by rw [hml]; rfl) (argsL := [(.int p3), (.int p4)]) (rest := []) (lenOf own_pd0 rfl) rfl (by show 2 * 0 + _ ≤ _; exact Nat.le_of_eq rfl) (hb hby at_23) (fun _ _ => ⟨rfl, e5, (by decide : 0 + 0 + 0 + 0 + 0 ≤ _), (by decide : 0 + 0 + 0 + 0 + 0 ≤ _)⟩)
  dsimp only [Pt.U, Pt.locs, Pt.cells, Pt.slots] at X7 l7 y7 z7 st7 hQ7
  subst l7 y7 z7
  obtain ⟨rfl, N7q, e7⟩ := hQ7
  have N7 := Fr.app N5 N7q
  refine own_go (fun tgt cont => st7 tgt cont) ?_
  show own_Go p e below s (Q0 n0) room_1.cells room_1.slots (T7.setTop (mkF m 26 #[.val (.int p1), .val (.int p2), .val (.int p3), .val (.int p4), .val (.int p5), .val (.int r2), .val (.int r4), .val (.int r6), .unset, .unset, .unset, .unset, .unset, .unset, .unset, .unset, .unset, .unset, .unset, .unset, .unset, .unset, .unset, .unset, .unset, .unset, .unset, .unset] [(.int (own_max p3 p4))]))
  generalize hr8 : (own_max p3 p4) = r8
  refine own_go (B := T7.setTop (mkF m 32 #[.val (.int p1), .val (.int p2), .val (.int p3), .val (.int p4), .val (.int p5), .val (.int r2), .val (.int r4), .val (.int r6), .val (.int r8), .unset, .unset, .unset, .unset, .unset, .unset, .unset, .unset, .unset, .unset, .unset, .unset, .unset, .unset, .unset, .unset, .unset, .unset, .unset] [(.int r6), (.int r2)])) (fun tgt cont => ?_) ?_
  · refine XS.istore X7.here hx rfl (hb hby at_26) rfl (l' := #[.val (.int p1), .val (.int p2), .val (.int p3), .val (.int p4), .val (.int p5), .val (.int r2), .val (.int r4), .val (.int r6), .val (.int r8), .unset, .unset, .unset, .unset, .unset, .unset, .unset, .unset, .unset, .unset, .unset, .unset, .unset, .unset, .unset, .unset, .unset, .unset, .unset]) rfl ?_
    refine XS.iload X7.here hx rfl (hb hby at_28) rfl ?_
    refine XS.iload X7.here hx rfl (hb hby at_30) rfl ?_
    exact cont
  -- pc 32: Math.min
  obtain ⟨_, _, ⟨T9, L9, k9, n9⟩, -, X9, ⟨Lc9, hQ9, l9, y9, z9⟩, st9⟩ := Jvm.LawKit.callS X7 hx (y := (⟨"java/lang/Math", "min", "(II)I"⟩ : MethodName)) hown (mvT hZ (hw _ (List.mem_of_getElem? (i := 0) rfl))) (mvT hZ (hw _ (List.mem_of_getElem? (i := 1) rfl))) (mvT hZ (hw _ (List.mem_of_getElem? (i := 2) rfl))) (mvT hZ (hw _ (List.mem_of_getElem? (i := 3) rfl))) (by decide) (backOf (W := 0) (rm1 l Z a0 hw [] r2 r6 h0 n0 Z0 ) hZ (hw _ (List.mem_of_getElem? (i := 3) rfl)) (hw _ (List.mem_of_getElem? (i := 2) rfl)) (by decide) (by decide)) (g := (mkF m 32 #[.val (.int p1), .val (.int p2), .val (.int p3), .val (.int p4), .val (.int p5), .val (.int r2), .val (.int r4), .val (.int r6), .val (.int r8), .unset, .unset, .unset, .unset, .unset, .unset, .unset, .unset, .unset, .unset, .unset, .unset, .unset, .unset, .unset, .unset, .unset, .unset, .unset] [(.int r6), (.int r2)])) rfl (by rw [hml]; rfl) (argsL := [(.int r2), (.int r6)]) (rest := []) (lenOf own_pd0 rfl) rfl (by show 2 * 0 + _ ≤ _; exact Nat.le_of_eq rfl) (hb hby at_32) (fun _ _ => ⟨rfl, e7, (by decide : 0 + 0 + 0 + 0 + 0 + 0 ≤ _), (by decide : 0 + 0 + 0 + 0 + 0 + 0 ≤ _)⟩)
  dsimp only [Pt.U, Pt.locs, Pt.cells, Pt.slots] at X9 l9 y9 z9 st9 hQ9
  subst l9 y9 z9
  obtain ⟨rfl, N9q, e9⟩ := hQ9
  have N9 := Fr.app N7 N9q
  refine own_go (fun tgt cont => st9 tgt cont) ?_
  show own_Go p e below s (Q0 n0) room_1.cells room_1.slots (T9.setTop (mkF m 35 #[.val (.int p1), .val (.int p2), .val (.int p3), .val (.int p4), .val (.int p5), .val (.int r2), .val (.int r4), .val (.int r6), .val (.int r8), .unset, .unset, .unset, .unset, .unset, .unset, .unset, .unset, .unset, .unset, .unset, .unset, .unset, .unset, .unset, .unset, .unset, .unset, .unset] [(.int (own_min r2 r6))]))
  generalize hr10 : (own_min r2 r6) = r10
  refine own_go (B := T9.setTop (mkF m 41 #[.val (.int p1), .val (.int p2), .val (.int p3), .val (.int p4), .val (.int p5), .val (.int r2), .val (.int r4), .val (.int r6), .val (.int r8), .val (.int r10), .unset, .unset, .unset, .unset, .unset, .unset, .unset, .unset, .unset, .unset, .unset, .unset, .unset, .unset, .unset, .unset, .unset, .unset] [(.int r6), (.int r2)])) (fun tgt cont => ?_) ?_
  · refine XS.istore X9.here hx rfl (hb hby at_35) rfl (l' := #[.val (.int p1), .val (.int p2), .val (.int p3), .val (.int p4), .val (.int p5), .val (.int r2), .val (.int r4), .val (.int r6), .val (.int r8), .val (.int r10), .unset, .unset, .unset, .unset, .unset, .unset, .unset, .unset, .unset, .unset, .unset, .unset, .unset, .unset, .unset, .unset, .unset, .unset]) rfl ?_
    refine XS.iload X9.here hx rfl (hb hby at_37) rfl ?_
    refine XS.iload X9.here hx rfl (hb hby at_39) rfl ?_
    exact cont
  -- pc 41: Math.max
  obtain ⟨_, _, ⟨T11, L11, k11, n11⟩, -, X11, ⟨Lc11, hQ11, l11, y11, z11⟩, st11⟩ := Jvm.LawKit.callS X9 hx (y := (⟨"java/lang/Math", "max", "(II)I"⟩ : MethodName)) hown (mvT hZ (hw _ (List.mem_of_getElem? (i := 4) rfl))) (mvT hZ (hw _ (List.mem_of_getElem? (i := 5) rfl))) (mvT hZ (hw _ (List.mem_of_getElem? (i := 2) rfl))) (mvT hZ (hw _ (List.mem_of_getElem? (i := 6) rfl))) (by decide) (backOf (W := 0) (rm2 l Z a0 hw [] r2 r6 h0 n0 Z0 ) hZ (hw _ (List.mem_of_getElem? (i := 6) rfl)) (hw _ (List.mem_of_getElem? (i := 2) rfl)) (by decide) (by decide)) (g := (mkF m 41 #[.val (.int p1), .val (.int p2), .val (.int p3), .val (.int p4), .val (.int p5), .val (.int r2), .val (.int r4), .val (.int r6), .val (.int r8), .val (.int r10), .unset, .unset, .unset, .unset, .unset, .unset, .unset, .unset, .unset, .unset, .unset, .unset, .unset, .unset, .unset, .unset, .unset, .unset] [(.int r6), (.int r2)])) rfl (by rw [hml]; rfl) (argsL := [(.int r2), (.int r6)]) (rest := []) (lenOf own_pd0 rfl) rfl (by show 2 * 0 + _ ≤ _; exact Nat.le_of_eq rfl) (hb hby at_41) (fun _ _ => ⟨rfl, e9, (by decide : 0 + 0 + 0 + 0 + 0 + 0 + 0 ≤ _), (by decide : 0 + 0 + 0 + 0 + 0 + 0 + 0 ≤ _)⟩)
  dsimp only [Pt.U, Pt.locs, Pt.cells, Pt.slots] at X11 l11 y11 z11 st11 hQ11
  subst l11 y11 z11
  obtain ⟨rfl, N11q, e11⟩ := hQ11
  have N11 := Fr.app N9 N11q
  refine own_go (fun tgt cont => st11 tgt cont) ?_
  show own_Go p e below s (Q0 n0) room_1.cells room_1.slots (T11.setTop (mkF m 44 #[.val (.int p1), .val (.int p2), .val (.int p3), .val (.int p4), .val (.int p5), .val (.int r2), .val (.int r4), .val (.int r6), .val (.int r8), .val (.int r10), .unset, .unset, .unset, .unset, .unset, .unset, .unset, .unset, .unset, .unset, .unset, .unset, .unset, .unset, .unset, .unset, .unset, .unset] [(.int (own_max r2 r6))]))
  generalize hr12 : (own_max r2 r6) = r12
  refine own_go (B := T11.setTop (mkF m 50 #[.val (.int p1), .val (.int p2), .val (.int p3), .val (.int p4), .val (.int p5), .val (.int r2), .val (.int r4), .val (.int r6), .val (.int r8), .val (.int r10), .val (.int r12), .unset, .unset, .unset, .unset, .unset, .unset, .unset, .unset, .unset, .unset, .unset, .unset, .unset, .unset, .unset, .unset, .unset] [(.int r8), (.int r4)])) (fun tgt cont => ?_) ?_
  · refine XS.istore X11.here hx rfl (hb hby at_44) rfl (l' := #[.val (.int p1), .val (.int p2), .val (.int p3), .val (.int p4), .val (.int p5), .val (.int r2), .val (.int r4), .val (.int r6), .val (.int r8), .val (.int r10), .val (.int r12), .unset, .unset, .unset, .unset, .unset, .unset, .unset, .unset, .unset, .unset, .unset, .unset, .unset, .unset, .unset, .unset, .unset]) rfl ?_
    refine XS.iload X11.here hx rfl (hb hby at_46) rfl ?_
    refine XS.iload X11.here hx rfl (hb hby at_48) rfl ?_
    exact cont
  -- pc 50: Math.min
  obtain ⟨_, _, ⟨T13, L13, k13, n13⟩, -, X13, ⟨Lc13, hQ13, l13, y13, z13⟩, st13⟩ := Jvm.LawKit.callS X11 hx (y := (⟨"java/lang/Math", "min", "(II)I"⟩ : MethodName)) hown (mvT hZ (hw _ (List.mem_of_getElem? (i := 0) rfl))) (mvT hZ (hw _ (List.mem_of_getElem? (i := 1) rfl))) (mvT hZ (hw _ (List.mem_of_getElem? (i := 2) rfl))) (mvT hZ (hw _ (List.mem_of_getElem? (i := 3) rfl))) (by decide) (backOf (W := 0) (rm1 l Z a0 hw [] r4 r8 h0 n0 Z0 ) hZ (hw _ (List.mem_of_getElem? (i := 3) rfl)) (hw _ (List.mem_of_getElem? (i := 2) rfl)) (by decide) (by decide)) (g := (mkF m 50 #[.val (.int p1), .val (.int p2), .val (.int p3), .val (.int p4), .val (.int p5), .val (.int r2), .val (.int r4), .val (.int r6), .val (.int r8), .val (.int r10), .val (.int r12), .unset, .unset, .unset, .unset, .unset, .unset, .unset, .unset, .unset, .unset, .unset, .unset, .unset, .unset, .unset, .unset, .unset] [(.int r8), (.int r4)])) rfl (by rw [hml]; rfl) (argsL := [(.int r4), (.int r8)]) (rest := []) (lenOf own_pd0 rfl) rfl (by show 2 * 0 + _ ≤ _; exact Nat.le_of_eq rfl) (hb hby at_50) (fun _ _ => ⟨rfl, e11, (by decide : 0 + 0 + 0 + 0 + 0 + 0 + 0 + 0 ≤ _), (by decide : 0 + 0 + 0 + 0 + 0 + 0 + 0 + 0 ≤ _)⟩)
  dsimp only [Pt.U, Pt.locs, Pt.cells, Pt.slots] at X13 l13 y13 z13 st13 hQ13
  subst l13 y13 z13
  obtain ⟨rfl, N13q, e13⟩ := hQ13
  have N13 := Fr.app N11 N13q
  refine own_go (fun tgt cont => st13 tgt cont) ?_
  show own_Go p e below s (Q0 n0) room_1.cells room_1.slots (T13.setTop (mkF m 53 #[.val (.int p1), .val (.int p2), .val (.int p3), .val (.int p4), .val (.int p5), .val (.int r2), .val (.int r4), .val (.int r6), .val (.int r8), .val (.int r10), .val (.int r12), .unset, .unset, .unset, .unset, .unset, .unset, .unset, .unset, .unset, .unset, .unset, .unset, .unset, .unset, .unset, .unset, .unset] [(.int (own_min r4 r8))]))
  generalize hr14 : (own_min r4 r8) = r14
  refine own_go (B := T13.setTop (mkF m 59 #[.val (.int p1), .val (.int p2), .val (.int p3), .val (.int p4), .val (.int p5), .val (.int r2), .val (.int r4), .val (.int r6), .val (.int r8), .val (.int r10), .val (.int r12), .val (.int r14), .unset, .unset, .unset, .unset, .unset, .unset, .unset, .unset, .unset, .unset, .unset, .unset, .unset, .unset, .unset, .unset] [(.int r8), (.int r4)])) (fun tgt cont => ?_) ?_
  · refine XS.istore X13.here hx rfl (hb hby at_53) rfl (l' := #[.val (.int p1), .val (.int p2), .val (.int p3), .val (.int p4), .val (.int p5), .val (.int r2), .val (.int r4), .val (.int r6), .val (.int r8), .val (.int r10), .val (.int r12), .val (.int r14), .unset, .unset, .unset, .unset, .unset, .unset, .unset, .unset, .unset, .unset, .unset, .unset, .unset, .unset, .unset, .unset]) rfl ?_
    refine XS.iload X13.here hx rfl (hb hby at_55) rfl ?_
    refine XS.iload X13.here hx rfl (hb hby at_57) rfl ?_
    exact cont
  -- pc 59: Math.max
  obtain ⟨_, _, ⟨T15, L15, k15, n15⟩, -, X15, ⟨Lc15, hQ15, l15, y15, z15⟩, st15⟩ := Jvm.LawKit.callS X13 hx (y := (⟨"java/lang/Math", "max", "(II)I"⟩ : MethodName)) hown (mvT hZ (hw _ (List.mem_of_getElem? (i := 4) rfl))) (mvT hZ (hw _ (List.mem_of_getElem? (i := 5) rfl))) (mvT hZ (hw _ (List.mem_of_getElem? (i := 2) rfl))) (mvT hZ (hw _ (List.mem_of_getElem? (i := 6) rfl))) (by decide) (backOf (W := 0) (rm2 l Z a0 hw [] r4 r8 h0 n0 Z0 ) hZ (hw _ (List.mem_of_getElem? (i := 6) rfl)) (hw _ (List.mem_of_getElem? (i := 2) rfl)) (by decide) (by decide)) (g := (mkF m 59 #[.val (.int p1), .val (.int p2), .val (.int p3), .val (.int p4), .val (.int p5), .val (.int r2), .val (.int r4), .val (.int r6), .val (.int r8), .val (.int r10), .val (.int r12), .val (.int r14), .unset, .unset, .unset, .unset, .unset, .unset, .unset, .unset, .unset, .unset, .unset, .unset, .unset, .unset, .unset, .unset] [(.int r8), (.int r4)])) rfl (by rw [hml]; rfl) (argsL := [(.int r4), (.int r8)]) (rest := []) (lenOf own_pd0 rfl) rfl (by show 2 * 0 + _ ≤ _; exact Nat.le_of_eq rfl) (hb hby at_59) (fun _ _ => ⟨rfl, e13, (by decide : 0 + 0 + 0 + 0 + 0 + 0 + 0 + 0 + 0 ≤ _), (by decide : 0 + 0 + 0 + 0 + 0 + 0 + 0 + 0 + 0 ≤ _)⟩)
  dsimp only [Pt.U, Pt.locs, Pt.cells, Pt.slots] at X15 l15 y15 z15 st15 hQ15
  subst l15 y15 z15
  obtain ⟨rfl, N15q, e15⟩ := hQ15
  have N15 := Fr.app N13 N15q
  refine own_go (fun tgt cont => st15 tgt cont) ?_
  show own_Go p e below s (Q0 n0) room_1.cells room_1.slots (T15.setTop (mkF m 62 #[.val (.int p1), .val (.int p2), .val (.int p3), .val (.int p4), .val (.int p5), .val (.int r2), .val (.int r4), .val (.int r6), .val (.int r8), .val (.int r10), .val (.int r12), .val (.int r14), .unset, .unset, .unset, .unset, .unset, .unset, .unset, .unset, .unset, .unset, .unset, .unset, .unset, .unset, .unset, .unset] [(.int (own_max r4 r8))]))
  generalize hr16 : (own_max r4 r8) = r16
  refine own_go (B := T15.setTop (mkF m 68 #[.val (.int p1), .val (.int p2), .val (.int p3), .val (.int p4), .val (.int p5), .val (.int r2), .val (.int r4), .val (.int r6), .val (.int r8), .val (.int r10), .val (.int r12), .val (.int r14), .val (.int r16), .unset, .unset, .unset, .unset, .unset, .unset, .unset, .unset, .unset, .unset, .unset, .unset, .unset, .unset, .unset] [(.int r14), (.int r12)])) (fun tgt cont => ?_) ?_
  · refine XS.istore X15.here hx rfl (hb hby at_62) rfl (l' := #[.val (.int p1), .val (.int p2), .val (.int p3), .val (.int p4), .val (.int p5), .val (.int r2), .val (.int r4), .val (.int r6), .val (.int r8), .val (.int r10), .val (.int r12), .val (.int r14), .val (.int r16), .unset, .unset, .unset, .unset, .unset, .unset, .unset, .unset, .unset, .unset, .unset, .unset, .unset, .unset, .unset]) rfl ?_
    refine XS.iload X15.here hx rfl (hb hby at_64) rfl ?_
    refine XS.iload X15.here hx rfl (hb hby at_66) rfl ?_
    exact cont
  -- pc 68: Math.min
  obtain ⟨_, _, ⟨T17, L17, k17, n17⟩, -, X17, ⟨Lc17, hQ17, l17, y17, z17⟩, st17⟩ := Jvm.LawKit.callS X15 hx (y := (⟨"java/lang/Math", "min", "(II)I"⟩ : MethodName)) hown (mvT hZ (hw _ (List.mem_of_getElem? (i := 0) rfl))) (mvT hZ (hw _ (List.mem_of_getElem? (i := 1) rfl))) (mvT hZ (hw _ (List.mem_of_getElem? (i := 2) rfl))) (mvT hZ (hw _ (List.mem_of_getElem? (i := 3) rfl))) (by decide) (backOf (W := 0) (rm1 l Z a0 hw [] r12 r14 h0 n0 Z0 ) hZ (hw _ (List.mem_of_getElem? (i := 3) rfl)) (hw _ (List.mem_of_getElem? (i := 2) rfl)) (by decide) (by decide)) (g := (mkF m 68 #[.val (.int p1), .val (.int p2), .val (.int p3), .val (.int p4), .val (.int p5), .val (.int r2), .val (.int r4), .val (.int r6), .val (.int r8), .val (.int r10), .val (.int r12), .val (.int r14), .val (.int r16), .unset, .unset, .unset, .unset, .unset, .unset, .unset, .unset, .unset, .unset, .unset, .unset, .unset, .unset, .unset] [(.int r14), (.int r12)])) rfl (by rw [hml]; rfl) (argsL := [(.int r12), (.int r14)]) (rest := []) (lenOf own_pd0 rfl) rfl (by show 2 * 0 + _ ≤ _; exact Nat.le_of_eq rfl) (hb hby at_68) (fun _ _ => ⟨rfl, e15, (by decide : 0 + 0 + 0 + 0 + 0 + 0 + 0 + 0 + 0 + 0 ≤ _), (by decide : 0 + 0 + 0 + 0 + 0 + 0 + 0 + 0 + 0 + 0 ≤ _)⟩)
  dsimp only [Pt.U, Pt.locs, Pt.cells, Pt.slots] at X17 l17 y17 z17 st17 hQ17
  subst l17 y17 z17
  obtain ⟨rfl, N17q, e17⟩ := hQ17
  have N17 := Fr.app N15 N17q
  refine own_go (fun tgt cont => st17 tgt cont) ?_
  show own_Go p e below s (Q0 n0) room_1.cells room_1.slots (T17.setTop (mkF m 71 #[.val (.int p1), .val (.int p2), .val (.int p3), .val (.int p4), .val (.int p5), .val (.int r2), .val (.int r4), .val (.int r6), .val (.int r8), .val (.int r10), .val (.int r12), .val (.int r14), .val (.int r16), .unset, .unset, .unset, .unset, .unset, .unset, .unset, .unset, .unset, .unset, .unset, .unset, .unset, .unset, .unset] [(.int (own_min r12 r14))]))
  generalize hr18 : (own_min r12 r14) = r18
  refine own_go (B := T17.setTop (mkF m 77 #[.val (.int p1), .val (.int p2), .val (.int p3), .val (.int p4), .val (.int p5), .val (.int r2), .val (.int r4), .val (.int r6), .val (.int r8), .val (.int r10), .val (.int r12), .val (.int r14), .val (.int r16), .val (.int r18), .unset, .unset, .unset, .unset, .unset, .unset, .unset, .unset, .unset, .unset, .unset, .unset, .unset, .unset] [(.int r14), (.int r12)])) (fun tgt cont => ?_) ?_
  · refine XS.istore X17.here hx rfl (hb hby at_71) rfl (l' := #[.val (.int p1), .val (.int p2), .val (.int p3), .val (.int p4), .val (.int p5), .val (.int r2), .val (.int r4), .val (.int r6), .val (.int r8), .val (.int r10), .val (.int r12), .val (.int r14), .val (.int r16), .val (.int r18), .unset, .unset, .unset, .unset, .unset, .unset, .unset, .unset, .unset, .unset, .unset, .unset, .unset, .unset]) rfl ?_
    refine XS.iload X17.here hx rfl (hb hby at_73) rfl ?_
    refine XS.iload X17.here hx rfl (hb hby at_75) rfl ?_
    exact cont
  -- pc 77: Math.max
  obtain ⟨_, _, ⟨T19, L19, k19, n19⟩, -, X19, ⟨Lc19, hQ19, l19, y19, z19⟩, st19⟩ := Jvm.LawKit.callS X17 hx (y := (⟨"java/lang/Math", "max", "(II)I"⟩ : MethodName)) hown (mvT hZ (hw _ (List.mem_of_getElem? (i := 4) rfl))) (mvT hZ (hw _ (List.mem_of_getElem? (i := 5) rfl))) (mvT hZ (hw _ (List.mem_of_getElem? (i := 2) rfl))) (mvT hZ (hw _ (List.mem_of_getElem? (i := 6) rfl))) (by decide) (backOf (W := 0) (rm2 l Z a0 hw [] r12 r14 h0 n0 Z0 ) hZ (hw _ (List.mem_of_getElem? (i := 6) rfl)) (hw _ (List.mem_of_getElem? (i := 2) rfl)) (by decide) (by decide)) (g := (mkF m 77 #[.val (.int p1), .val (.int p2), .val (.int p3), .val (.int p4), .val (.int p5), .val (.int r2), .val (.int r4), .val (.int r6), .val (.int r8), .val (.int r10), .val (.int r12), .val (.int r14), .val (.int r16), .val (.int r18), .unset, .unset, .unset, .unset, .unset, .unset, .unset, .unset, .unset, .unset, .unset, .unset, .unset, .unset] [(.int r14), (.int r12)])) rfl (by rw [hml]; rfl) (argsL := [(.int r12), (.int r14)]) (rest := []) (lenOf own_pd0 rfl) rfl (by show 2 * 0 + _ ≤ _; exact Nat.le_of_eq rfl) (hb hby at_77) (fun _ _ => ⟨rfl, e17, (by decide : 0 + 0 + 0 + 0 + 0 + 0 + 0 + 0 + 0 + 0 + 0 ≤ _), (by decide : 0 + 0 + 0 + 0 + 0 + 0 + 0 + 0 + 0 + 0 + 0 ≤ _)⟩)
  dsimp only [Pt.U, Pt.locs, Pt.cells, Pt.slots] at X19 l19 y19 z19 st19 hQ19
  subst l19 y19 z19
  obtain ⟨rfl, N19q, e19⟩ := hQ19
  have N19 := Fr.app N17 N19q
  refine own_go (fun tgt cont => st19 tgt cont) ?_
  show own_Go p e below s (Q0 n0) room_1.cells room_1.slots (T19.setTop (mkF m 80 #[.val (.int p1), .val (.int p2), .val (.int p3), .val (.int p4), .val (.int p5), .val (.int r2), .val (.int r4), .val (.int r6), .val (.int r8), .val (.int r10), .val (.int r12), .val (.int r14), .val (.int r16), .val (.int r18), .unset, .unset, .unset, .unset, .unset, .unset, .unset, .unset, .unset, .unset, .unset, .unset, .unset, .unset] [(.int (own_max r12 r14))]))
  generalize hr20 : (own_max r12 r14) = r20
  refine own_go (B := T19.setTop (mkF m 86 #[.val (.int p1), .val (.int p2), .val (.int p3), .val (.int p4), .val (.int p5), .val (.int r2), .val (.int r4), .val (.int r6), .val (.int r8), .val (.int r10), .val (.int r12), .val (.int r14), .val (.int r16), .val (.int r18), .val (.int r20), .unset, .unset, .unset, .unset, .unset, .unset, .unset, .unset, .unset, .unset, .unset, .unset, .unset] [(.int r18), (.int r10)])) (fun tgt cont => ?_) ?_
  · refine XS.istore X19.here hx rfl (hb hby at_80) rfl (l' := #[.val (.int p1), .val (.int p2), .val (.int p3), .val (.int p4), .val (.int p5), .val (.int r2), .val (.int r4), .val (.int r6), .val (.int r8), .val (.int r10), .val (.int r12), .val (.int r14), .val (.int r16), .val (.int r18), .val (.int r20), .unset, .unset, .unset, .unset, .unset, .unset, .unset, .unset, .unset, .unset, .unset, .unset, .unset]) rfl ?_
    refine XS.iload X19.here hx rfl (hb hby at_82) rfl ?_
    refine XS.iload X19.here hx rfl (hb hby at_84) rfl ?_
    exact cont
  by_cases hc21 : r10 < r18
  ·
    refine own_go (B := T19.setTop (mkF m 93 #[.val (.int p1), .val (.int p2), .val (.int p3), .val (.int p4), .val (.int p5), .val (.int r2), .val (.int r4), .val (.int r6), .val (.int r8), .val (.int r10), .val (.int r12), .val (.int r14), .val (.int r16), .val (.int r18), .val (.int r20), .unset, .unset, .unset, .unset, .unset, .unset, .unset, .unset, .unset, .unset, .unset, .unset, .unset] [(.int r20), (.int r18)])) (fun tgt cont => ?_) ?_
    · refine XS.icmpNo X19.here hx rfl (hb hby at_86) rfl (XT.ii_ge_f hc21) ?_
      refine XS.iload X19.here hx rfl (hb hby at_89) rfl ?_
      refine XS.iload X19.here hx rfl (hb hby at_91) rfl ?_
      exact cont
    by_cases hc22 : r18 < r20
    ·
      refine own_go (B := T19.setTop (mkF m 100 #[.val (.int p1), .val (.int p2), .val (.int p3), .val (.int p4), .val (.int p5), .val (.int r2), .val (.int r4), .val (.int r6), .val (.int r8), .val (.int r10), .val (.int r12), .val (.int r14), .val (.int r16), .val (.int r18), .val (.int r20), .unset, .unset, .unset, .unset, .unset, .unset, .unset, .unset, .unset, .unset, .unset, .unset, .unset] [(.int r16), (.int r20)])) (fun tgt cont => ?_) ?_
      · refine XS.icmpNo X19.here hx rfl (hb hby at_93) rfl (XT.ii_ge_f hc22) ?_
        refine XS.iload X19.here hx rfl (hb hby at_96) rfl ?_
        refine XS.iload X19.here hx rfl (hb hby at_98) rfl ?_
        exact cont
      by_cases hc23 : r20 < r16
      ·
        refine own_go (B := T19.setTop (mkF m 109 #[.val (.int p1), .val (.int p2), .val (.int p3), .val (.int p4), .val (.int p5), .val (.int r2), .val (.int r4), .val (.int r6), .val (.int r8), .val (.int r10), .val (.int r12), .val (.int r14), .val (.int r16), .val (.int r18), .val (.int r20), .unset, .unset, .unset, .unset, .unset, .unset, .unset, .unset, .unset, .unset, .unset, .unset, .unset] [(.int (p5 &&& (3 : Int32)))])) (fun tgt cont => ?_) ?_
        · refine XS.icmpYes X19.here hx rfl (pc0 := 100) (pc' := 105) rfl (hb hby at_100) rfl (XT.ii_lt_t hc23) (by decide) (by decide) ?_
          refine XS.iload X19.here hx rfl (hb hby at_105) rfl ?_
          refine XT.iconstV X19.here hx rfl (3 : Int32) (hb hby at_107) rfl ?_
          refine XS.iand X19.here hx rfl (hb hby at_108) rfl ?_
          exact cont
        generalize hv24 : (p5 &&& (3 : Int32)) = v24
        refine own_go (B := T19.setTop (mkF m 117 #[.val (.int p1), .val (.int p2), .val (.int p3), .val (.int p4), .val (.int p5), .val (.int r2), .val (.int r4), .val (.int r6), .val (.int r8), .val (.int r10), .val (.int r12), .val (.int r14), .val (.int r16), .val (.int r18), .val (.int r20), .val (.int v24), .unset, .unset, .unset, .unset, .unset, .unset, .unset, .unset, .unset, .unset, .unset, .unset] [(.int (((p5.toUInt32 >>> ((2 : Int32) &&& 31).toUInt32).toInt32) &&& (3 : Int32)))])) (fun tgt cont => ?_) ?_
        · refine XS.istore X19.here hx rfl (hb hby at_109) rfl (l' := #[.val (.int p1), .val (.int p2), .val (.int p3), .val (.int p4), .val (.int p5), .val (.int r2), .val (.int r4), .val (.int r6), .val (.int r8), .val (.int r10), .val (.int r12), .val (.int r14), .val (.int r16), .val (.int r18), .val (.int r20), .val (.int v24), .unset, .unset, .unset, .unset, .unset, .unset, .unset, .unset, .unset, .unset, .unset, .unset]) rfl ?_
          refine XS.iload X19.here hx rfl (hb hby at_111) rfl ?_
          refine XT.iconstV X19.here hx rfl (2 : Int32) (hb hby at_113) rfl ?_
          refine XS.iushr X19.here hx rfl (hb hby at_114) rfl ?_
          refine XT.iconstV X19.here hx rfl (3 : Int32) (hb hby at_115) rfl ?_
          refine XS.iand X19.here hx rfl (hb hby at_116) rfl ?_
          exact cont
        generalize hv25 : (((p5.toUInt32 >>> ((2 : Int32) &&& 31).toUInt32).toInt32) &&& (3 : Int32)) = v25
        refine own_go (B := T19.setTop (mkF m 125 #[.val (.int p1), .val (.int p2), .val (.int p3), .val (.int p4), .val (.int p5), .val (.int r2), .val (.int r4), .val (.int r6), .val (.int r8), .val (.int r10), .val (.int r12), .val (.int r14), .val (.int r16), .val (.int r18), .val (.int r20), .val (.int v24), .val (.int v25), .unset, .unset, .unset, .unset, .unset, .unset, .unset, .unset, .unset, .unset, .unset] [(.int (((p5.toUInt32 >>> ((4 : Int32) &&& 31).toUInt32).toInt32) &&& (3 : Int32)))])) (fun tgt cont => ?_) ?_
        · refine XS.istore X19.here hx rfl (hb hby at_117) rfl (l' := #[.val (.int p1), .val (.int p2), .val (.int p3), .val (.int p4), .val (.int p5), .val (.int r2), .val (.int r4), .val (.int r6), .val (.int r8), .val (.int r10), .val (.int r12), .val (.int r14), .val (.int r16), .val (.int r18), .val (.int r20), .val (.int v24), .val (.int v25), .unset, .unset, .unset, .unset, .unset, .unset, .unset, .unset, .unset, .unset, .unset]) rfl ?_
          refine XS.iload X19.here hx rfl (hb hby at_119) rfl ?_
          refine XT.iconstV X19.here hx rfl (4 : Int32) (hb hby at_121) rfl ?_
          refine XS.iushr X19.here hx rfl (hb hby at_122) rfl ?_
          refine XT.iconstV X19.here hx rfl (3 : Int32) (hb hby at_123) rfl ?_
          refine XS.iand X19.here hx rfl (hb hby at_124) rfl ?_
          exact cont
        generalize hv26 : (((p5.toUInt32 >>> ((4 : Int32) &&& 31).toUInt32).toInt32) &&& (3 : Int32)) = v26
        refine own_go (B := T19.setTop (mkF m 134 #[.val (.int p1), .val (.int p2), .val (.int p3), .val (.int p4), .val (.int p5), .val (.int r2), .val (.int r4), .val (.int r6), .val (.int r8), .val (.int r10), .val (.int r12), .val (.int r14), .val (.int r16), .val (.int r18), .val (.int r20), .val (.int v24), .val (.int v25), .val (.int v26), .unset, .unset, .unset, .unset, .unset, .unset, .unset, .unset, .unset, .unset] [(.int (((p5.toUInt32 >>> ((6 : Int32) &&& 31).toUInt32).toInt32) &&& (3 : Int32)))])) (fun tgt cont => ?_) ?_
        · refine XS.istore X19.here hx rfl (hb hby at_125) rfl (l' := #[.val (.int p1), .val (.int p2), .val (.int p3), .val (.int p4), .val (.int p5), .val (.int r2), .val (.int r4), .val (.int r6), .val (.int r8), .val (.int r10), .val (.int r12), .val (.int r14), .val (.int r16), .val (.int r18), .val (.int r20), .val (.int v24), .val (.int v25), .val (.int v26), .unset, .unset, .unset, .unset, .unset, .unset, .unset, .unset, .unset, .unset]) rfl ?_
          refine XS.iload X19.here hx rfl (hb hby at_127) rfl ?_
          refine XT.bipushV X19.here hx rfl (6 : Int32) (hb hby at_129) rfl ?_
          refine XS.iushr X19.here hx rfl (hb hby at_131) rfl ?_
          refine XT.iconstV X19.here hx rfl (3 : Int32) (hb hby at_132) rfl ?_
          refine XS.iand X19.here hx rfl (hb hby at_133) rfl ?_
          exact cont
        generalize hv27 : (((p5.toUInt32 >>> ((6 : Int32) &&& 31).toUInt32).toInt32) &&& (3 : Int32)) = v27
        refine own_go (B := T19.setTop (mkF m 137 #[.val (.int p1), .val (.int p2), .val (.int p3), .val (.int p4), .val (.int p5), .val (.int r2), .val (.int r4), .val (.int r6), .val (.int r8), .val (.int r10), .val (.int r12), .val (.int r14), .val (.int r16), .val (.int r18), .val (.int r20), .val (.int v24), .val (.int v25), .val (.int v26), .val (.int v27), .unset, .unset, .unset, .unset, .unset, .unset, .unset, .unset, .unset] [(.int (4 : Int32))])) (fun tgt cont => ?_) ?_
        · refine XS.istore X19.here hx rfl (hb hby at_134) rfl (l' := #[.val (.int p1), .val (.int p2), .val (.int p3), .val (.int p4), .val (.int p5), .val (.int r2), .val (.int r4), .val (.int r6), .val (.int r8), .val (.int r10), .val (.int r12), .val (.int r14), .val (.int r16), .val (.int r18), .val (.int r20), .val (.int v24), .val (.int v25), .val (.int v26), .val (.int v27), .unset, .unset, .unset, .unset, .unset, .unset, .unset, .unset, .unset]) rfl ?_
          refine XT.iconstV X19.here hx rfl (4 : Int32) (hb hby at_136) rfl ?_
          exact cont
        obtain ⟨T28, h28, X28, e28, E28, A28, AE28, st28⟩ := own_newIA X19 hx hZ (hw _ (List.mem_of_getElem? (i := 7) rfl)) e19 (g := (mkF m 137 #[.val (.int p1), .val (.int p2), .val (.int p3), .val (.int p4), .val (.int p5), .val (.int r2), .val (.int r4), .val (.int r6), .val (.int r8), .val (.int r10), .val (.int r12), .val (.int r14), .val (.int r16), .val (.int r18), .val (.int r20), .val (.int v24), .val (.int v25), .val (.int v26), .val (.int v27), .unset, .unset, .unset, .unset, .unset, .unset, .unset, .unset, .unset] [(.int (4 : Int32))])) rfl (hb hby at_137) rfl (by decide) (cap := 4) (by decide) (by decide) (by decide) (by decide)
        obtain ⟨b28, g28⟩ : ∃ z, z = h0.size := ⟨_, rfl⟩
        rw [← g28] at A28 AE28 st28
        have g_b28 : n0 ≤ b28 := Nat.le_trans Z0 (Nat.le_of_eq g28.symm)
        have sz_b28 : h0.size ≤ b28 := Nat.le_trans (Keep.refl h0 []).1 (Nat.le_of_eq g28.symm)
        have kk28 : Keep h0 h28 [] := (Keep.refl h0 []).ext E28
        have zp28 : n0 ≤ h28.size := Nat.le_trans Z0 kk28.1
        have A28v : own_IA Z h28 b28 [(0 : Int32), (0 : Int32), (0 : Int32), (0 : Int32)] := A28
        refine own_go (fun tgt cont => st28 tgt cont) ?_
        show own_Go p e below s (Q0 n0) room_1.cells room_1.slots (T28.setTop (mkF m 139 #[.val (.int p1), .val (.int p2), .val (.int p3), .val (.int p4), .val (.int p5), .val (.int r2), .val (.int r4), .val (.int r6), .val (.int r8), .val (.int r10), .val (.int r12), .val (.int r14), .val (.int r16), .val (.int r18), .val (.int r20), .val (.int v24), .val (.int v25), .val (.int v26), .val (.int v27), .unset, .unset, .unset, .unset, .unset, .unset, .unset, .unset, .unset] [(.ref b28)]))
        refine own_go (B := T28.setTop (mkF m 142 #[.val (.int p1), .val (.int p2), .val (.int p3), .val (.int p4), .val (.int p5), .val (.int r2), .val (.int r4), .val (.int r6), .val (.int r8), .val (.int r10), .val (.int r12), .val (.int r14), .val (.int r16), .val (.int r18), .val (.int r20), .val (.int v24), .val (.int v25), .val (.int v26), .val (.int v27), .val (.ref b28), .unset, .unset, .unset, .unset, .unset, .unset, .unset, .unset] [(.int (4 : Int32))])) (fun tgt cont => ?_) ?_
        · refine XS.astore X28.here hx rfl (hb hby at_139) rfl rfl (l' := #[.val (.int p1), .val (.int p2), .val (.int p3), .val (.int p4), .val (.int p5), .val (.int r2), .val (.int r4), .val (.int r6), .val (.int r8), .val (.int r10), .val (.int r12), .val (.int r14), .val (.int r16), .val (.int r18), .val (.int r20), .val (.int v24), .val (.int v25), .val (.int v26), .val (.int v27), .val (.ref b28), .unset, .unset, .unset, .unset, .unset, .unset, .unset, .unset]) rfl ?_
          refine XT.iconstV X28.here hx rfl (4 : Int32) (hb hby at_141) rfl ?_
          exact cont
        obtain ⟨T29, h29, X29, e29, E29, A29, AE29, st29⟩ := own_newIA X28 hx hZ (hw _ (List.mem_of_getElem? (i := 7) rfl)) e28 (g := (mkF m 142 #[.val (.int p1), .val (.int p2), .val (.int p3), .val (.int p4), .val (.int p5), .val (.int r2), .val (.int r4), .val (.int r6), .val (.int r8), .val (.int r10), .val (.int r12), .val (.int r14), .val (.int r16), .val (.int r18), .val (.int r20), .val (.int v24), .val (.int v25), .val (.int v26), .val (.int v27), .val (.ref b28), .unset, .unset, .unset, .unset, .unset, .unset, .unset, .unset] [(.int (4 : Int32))])) rfl (hb hby at_142) rfl (by decide) (cap := 4) (by decide) (by decide) (by decide) (by decide)
        obtain ⟨b29, g29⟩ : ∃ z, z = h28.size := ⟨_, rfl⟩
        rw [← g29] at A29 AE29 st29
        have g_b29 : n0 ≤ b29 := Nat.le_trans zp28 (Nat.le_of_eq g29.symm)
        have sz_b29 : h0.size ≤ b29 := Nat.le_trans kk28.1 (Nat.le_of_eq g29.symm)
        have ne_b28_b29 : b28 ≠ b29 := Nat.ne_of_lt (by rw [g29]; exact A28v.lt)
        have kk29 : Keep h0 h29 [] := kk28.ext E29
        have zp29 : n0 ≤ h29.size := Nat.le_trans Z0 kk29.1
        have A29v : own_IA Z h29 b29 [(0 : Int32), (0 : Int32), (0 : Int32), (0 : Int32)] := A29
        refine own_go (fun tgt cont => st29 tgt cont) ?_
        show own_Go p e below s (Q0 n0) room_1.cells room_1.slots (T29.setTop (mkF m 144 #[.val (.int p1), .val (.int p2), .val (.int p3), .val (.int p4), .val (.int p5), .val (.int r2), .val (.int r4), .val (.int r6), .val (.int r8), .val (.int r10), .val (.int r12), .val (.int r14), .val (.int r16), .val (.int r18), .val (.int r20), .val (.int v24), .val (.int v25), .val (.int v26), .val (.int v27), .val (.ref b28), .unset, .unset, .unset, .unset, .unset, .unset, .unset, .unset] [(.ref b29)]))
        refine own_go (B := T29.setTop (mkF m 147 #[.val (.int p1), .val (.int p2), .val (.int p3), .val (.int p4), .val (.int p5), .val (.int r2), .val (.int r4), .val (.int r6), .val (.int r8), .val (.int r10), .val (.int r12), .val (.int r14), .val (.int r16), .val (.int r18), .val (.int r20), .val (.int v24), .val (.int v25), .val (.int v26), .val (.int v27), .val (.ref b28), .val (.ref b29), .unset, .unset, .unset, .unset, .unset, .unset, .unset] [(.int (4 : Int32))])) (fun tgt cont => ?_) ?_
        · refine XS.astore X29.here hx rfl (hb hby at_144) rfl rfl (l' := #[.val (.int p1), .val (.int p2), .val (.int p3), .val (.int p4), .val (.int p5), .val (.int r2), .val (.int r4), .val (.int r6), .val (.int r8), .val (.int r10), .val (.int r12), .val (.int r14), .val (.int r16), .val (.int r18), .val (.int r20), .val (.int v24), .val (.int v25), .val (.int v26), .val (.int v27), .val (.ref b28), .val (.ref b29), .unset, .unset, .unset, .unset, .unset, .unset, .unset]) rfl ?_
          refine XT.iconstV X29.here hx rfl (4 : Int32) (hb hby at_146) rfl ?_
          exact cont
        have f31 := (A28v.ext E29)
        obtain ⟨T30, h30, X30, e30, E30, A30, AE30, st30⟩ := own_newIA X29 hx hZ (hw _ (List.mem_of_getElem? (i := 7) rfl)) e29 (g := (mkF m 147 #[.val (.int p1), .val (.int p2), .val (.int p3), .val (.int p4), .val (.int p5), .val (.int r2), .val (.int r4), .val (.int r6), .val (.int r8), .val (.int r10), .val (.int r12), .val (.int r14), .val (.int r16), .val (.int r18), .val (.int r20), .val (.int v24), .val (.int v25), .val (.int v26), .val (.int v27), .val (.ref b28), .val (.ref b29), .unset, .unset, .unset, .unset, .unset, .unset, .unset] [(.int (4 : Int32))])) rfl (hb hby at_147) rfl (by decide) (cap := 4) (by decide) (by decide) (by decide) (by decide)
        obtain ⟨b30, g30⟩ : ∃ z, z = h29.size := ⟨_, rfl⟩
        rw [← g30] at A30 AE30 st30
        have g_b30 : n0 ≤ b30 := Nat.le_trans zp29 (Nat.le_of_eq g30.symm)
        have sz_b30 : h0.size ≤ b30 := Nat.le_trans kk29.1 (Nat.le_of_eq g30.symm)
        have ne_b28_b30 : b28 ≠ b30 := Nat.ne_of_lt (by rw [g30]; exact f31.lt)
        have ne_b29_b30 : b29 ≠ b30 := Nat.ne_of_lt (by rw [g30]; exact A29v.lt)
        have kk30 : Keep h0 h30 [] := kk29.ext E30
        have zp30 : n0 ≤ h30.size := Nat.le_trans Z0 kk30.1
        have A30v : own_IA Z h30 b30 [(0 : Int32), (0 : Int32), (0 : Int32), (0 : Int32)] := A30
        refine own_go (fun tgt cont => st30 tgt cont) ?_
        show own_Go p e below s (Q0 n0) room_1.cells room_1.slots (T30.setTop (mkF m 149 #[.val (.int p1), .val (.int p2), .val (.int p3), .val (.int p4), .val (.int p5), .val (.int r2), .val (.int r4), .val (.int r6), .val (.int r8), .val (.int r10), .val (.int r12), .val (.int r14), .val (.int r16), .val (.int r18), .val (.int r20), .val (.int v24), .val (.int v25), .val (.int v26), .val (.int v27), .val (.ref b28), .val (.ref b29), .unset, .unset, .unset, .unset, .unset, .unset, .unset] [(.ref b30)]))
        refine own_go (B := T30.setTop (mkF m 160 #[.val (.int p1), .val (.int p2), .val (.int p3), .val (.int p4), .val (.int p5), .val (.int r2), .val (.int r4), .val (.int r6), .val (.int r8), .val (.int r10), .val (.int r12), .val (.int r14), .val (.int r16), .val (.int r18), .val (.int r20), .val (.int v24), .val (.int v25), .val (.int v26), .val (.int v27), .val (.ref b28), .val (.ref b29), .val (.ref b30), .val (.int (0 : Int32)), .val (.int (0 : Int32)), .val (.int (0 : Int32)), .unset, .unset, .unset] [])) (fun tgt cont => ?_) ?_
        · refine XS.astore X30.here hx rfl (hb hby at_149) rfl rfl (l' := #[.val (.int p1), .val (.int p2), .val (.int p3), .val (.int p4), .val (.int p5), .val (.int r2), .val (.int r4), .val (.int r6), .val (.int r8), .val (.int r10), .val (.int r12), .val (.int r14), .val (.int r16), .val (.int r18), .val (.int r20), .val (.int v24), .val (.int v25), .val (.int v26), .val (.int v27), .val (.ref b28), .val (.ref b29), .val (.ref b30), .unset, .unset, .unset, .unset, .unset, .unset]) rfl ?_
          refine XT.iconstV X30.here hx rfl (0 : Int32) (hb hby at_151) rfl ?_
          refine XS.istore X30.here hx rfl (hb hby at_152) rfl (l' := #[.val (.int p1), .val (.int p2), .val (.int p3), .val (.int p4), .val (.int p5), .val (.int r2), .val (.int r4), .val (.int r6), .val (.int r8), .val (.int r10), .val (.int r12), .val (.int r14), .val (.int r16), .val (.int r18), .val (.int r20), .val (.int v24), .val (.int v25), .val (.int v26), .val (.int v27), .val (.ref b28), .val (.ref b29), .val (.ref b30), .val (.int (0 : Int32)), .unset, .unset, .unset, .unset, .unset]) rfl ?_
          refine XT.iconstV X30.here hx rfl (0 : Int32) (hb hby at_154) rfl ?_
          refine XS.istore X30.here hx rfl (hb hby at_155) rfl (l' := #[.val (.int p1), .val (.int p2), .val (.int p3), .val (.int p4), .val (.int p5), .val (.int r2), .val (.int r4), .val (.int r6), .val (.int r8), .val (.int r10), .val (.int r12), .val (.int r14), .val (.int r16), .val (.int r18), .val (.int r20), .val (.int v24), .val (.int v25), .val (.int v26), .val (.int v27), .val (.ref b28), .val (.ref b29), .val (.ref b30), .val (.int (0 : Int32)), .val (.int (0 : Int32)), .unset, .unset, .unset, .unset]) rfl ?_
          refine XT.iconstV X30.here hx rfl (0 : Int32) (hb hby at_157) rfl ?_
          refine XS.istore X30.here hx rfl (hb hby at_158) rfl (l' := #[.val (.int p1), .val (.int p2), .val (.int p3), .val (.int p4), .val (.int p5), .val (.int r2), .val (.int r4), .val (.int r6), .val (.int r8), .val (.int r10), .val (.int r12), .val (.int r14), .val (.int r16), .val (.int r18), .val (.int r20), .val (.int v24), .val (.int v25), .val (.int v26), .val (.int v27), .val (.ref b28), .val (.ref b29), .val (.ref b30), .val (.int (0 : Int32)), .val (.int (0 : Int32)), .val (.int (0 : Int32)), .unset, .unset, .unset]) rfl ?_
          exact cont
        have KE4 : ∀ (T32 : State) (L32 : List Loc) (h32 : Heap) (na nb ne : Nat) (qa qb qe : List Int32) (X32 : Stand p l e room_1 s m #[(.int p1), (.int p2), (.int p3), (.int p4), (.int p5)] below meth c T32 L32 3 12) (e32 : T32.heap = h32) (N32 : Fr n0 L32) (kk32 : Keep h0 h32 []) (f32_0 : own_IA Z h32 b28 qa) (f32_1 : own_IA Z h32 b29 qb) (f32_2 : own_IA Z h32 b30 qe) (la : qa.length = 4) (lb : qb.length = 4) (le : qe.length = 4) (na4 : na ≤ 4) (nb4 : nb ≤ 4) (ne4 : ne ≤ 4) (nab : na + nb ≤ 4) (ha : qa.take na = own_pa v24 r10 ++ own_pa v25 r18 ++ own_pa v26 r20 ++ own_pa v27 r16) (hpb : qb.take nb = own_pb v24 r10 ++ own_pb v25 r18 ++ own_pb v26 r20 ++ own_pb v27 r16) (he : qe.take ne = own_pe v24 r10 ++ own_pe v25 r18 ++ own_pe v26 r20 ++ own_pe v27 r16), own_Go p e below s (Q0 n0) room_1.cells room_1.slots (T32.setTop (mkF m 360 #[.val (.int p1), .val (.int p2), .val (.int p3), .val (.int p4), .val (.int p5), .val (.int r2), .val (.int r4), .val (.int r6), .val (.int r8), .val (.int r10), .val (.int r12), .val (.int r14), .val (.int r16), .val (.int r18), .val (.int r20), .val (.int v24), .val (.int v25), .val (.int v26), .val (.int v27), .val (.ref b28), .val (.ref b29), .val (.ref b30), .val (.int (Int32.ofNat na)), .val (.int (Int32.ofNat nb)), .val (.int (Int32.ofNat ne)), .unset, .unset, .unset] [])) := by
          intro T32 L32 h32 na nb ne qa qb qe X32 e32 N32 kk32 f32_0 f32_1 f32_2 la lb le na4 nb4 ne4 nab ha hpb he
          have zp32 : n0 ≤ h32.size := Nat.le_trans Z0 kk32.1
          refine own_go (B := T32.setTop (mkF m 364 #[.val (.int p1), .val (.int p2), .val (.int p3), .val (.int p4), .val (.int p5), .val (.int r2), .val (.int r4), .val (.int r6), .val (.int r8), .val (.int r10), .val (.int r12), .val (.int r14), .val (.int r16), .val (.int r18), .val (.int r20), .val (.int v24), .val (.int v25), .val (.int v26), .val (.int v27), .val (.ref b28), .val (.ref b29), .val (.ref b30), .val (.int (Int32.ofNat na)), .val (.int (Int32.ofNat nb)), .val (.int (Int32.ofNat ne)), .unset, .unset, .unset] [(.int (Int32.ofNat na)), (.ref b28)])) (fun tgt cont => ?_) ?_
          · refine XS.aload X32.here hx rfl (hb hby at_360) rfl rfl ?_
            refine XS.iload X32.here hx rfl (hb hby at_362) rfl ?_
            exact cont
          -- pc 364: SortedSetsUnionPinLaw.take
          obtain ⟨_, _, ⟨T33, L33, k33, n33⟩, -, X33, ⟨Lc33, hQ33, l33, y33, z33⟩, st33⟩ := Jvm.LawKit.callS X32 hx (y := (⟨"com/example/treebound/treebound/SortedSetsUnionPinLaw", "take", "([II)[I"⟩ : MethodName)) hown (mvT hZ (hw _ (List.mem_of_getElem? (i := 8) rfl))) (mvT hZ (hw _ (List.mem_of_getElem? (i := 9) rfl))) (mvT hZ (hw _ (List.mem_of_getElem? (i := 10) rfl))) (mvT hZ (hw _ (List.mem_of_getElem? (i := 11) rfl))) (by decide) (backOf (W := 0) (rm3 l Z a0 hw [] b28 qa na h32 n0 zp32 f32_0 la na4) hZ (hw _ (List.mem_of_getElem? (i := 11) rfl)) (hw _ (List.mem_of_getElem? (i := 10) rfl)) (by decide) (by decide)) (g := (mkF m 364 #[.val (.int p1), .val (.int p2), .val (.int p3), .val (.int p4), .val (.int p5), .val (.int r2), .val (.int r4), .val (.int r6), .val (.int r8), .val (.int r10), .val (.int r12), .val (.int r14), .val (.int r16), .val (.int r18), .val (.int r20), .val (.int v24), .val (.int v25), .val (.int v26), .val (.int v27), .val (.ref b28), .val (.ref b29), .val (.ref b30), .val (.int (Int32.ofNat na)), .val (.int (Int32.ofNat nb)), .val (.int (Int32.ofNat ne)), .unset, .unset, .unset] [(.int (Int32.ofNat na)), (.ref b28)])) rfl (by rw [hml]; rfl) (argsL := [(.ref b28), (.int (Int32.ofNat na))]) (rest := []) (lenOf own_pd1 rfl) rfl (by show 2 * 0 + _ ≤ _; exact Nat.le_of_eq rfl) (hb hby at_364) (fun _ _ => ⟨rfl, e32, (by decide : 3 + 1 ≤ _), (by decide : 12 + 4 ≤ _)⟩)
          dsimp only [Pt.U, Pt.locs, Pt.cells, Pt.slots] at X33 l33 y33 z33 st33 hQ33
          subst l33 y33 z33
          obtain ⟨b33, rfl, N33q, K33, gb33, ab33, eb33⟩ := hQ33
          have N33 := Fr.app N32 N33q
          have g_b33 : n0 ≤ b33 := Nat.le_trans zp32 gb33
          have sz_b33 : h0.size ≤ b33 := Nat.le_trans kk32.1 gb33
          have ne_b28_b33 : b28 ≠ b33 := Nat.ne_of_lt (Nat.lt_of_lt_of_le f32_0.lt gb33)
          have ne_b29_b33 : b29 ≠ b33 := Nat.ne_of_lt (Nat.lt_of_lt_of_le f32_1.lt gb33)
          have ne_b30_b33 : b30 ≠ b33 := Nat.ne_of_lt (Nat.lt_of_lt_of_le f32_2.lt gb33)
          have kk33 : Keep h0 T33.heap [] := kk32.trans K33 all0
          have zp33 : n0 ≤ T33.heap.size := Nat.le_trans Z0 kk33.1
          generalize hw34 : (qa.take na) = w34 at ab33
          refine own_go (fun tgt cont => st33 tgt cont) ?_
          show own_Go p e below s (Q0 n0) room_1.cells room_1.slots (T33.setTop (mkF m 367 #[.val (.int p1), .val (.int p2), .val (.int p3), .val (.int p4), .val (.int p5), .val (.int r2), .val (.int r4), .val (.int r6), .val (.int r8), .val (.int r10), .val (.int r12), .val (.int r14), .val (.int r16), .val (.int r18), .val (.int r20), .val (.int v24), .val (.int v25), .val (.int v26), .val (.int v27), .val (.ref b28), .val (.ref b29), .val (.ref b30), .val (.int (Int32.ofNat na)), .val (.int (Int32.ofNat nb)), .val (.int (Int32.ofNat ne)), .unset, .unset, .unset] [(.ref b33)]))
          refine own_go (B := T33.setTop (mkF m 373 #[.val (.int p1), .val (.int p2), .val (.int p3), .val (.int p4), .val (.int p5), .val (.int r2), .val (.int r4), .val (.int r6), .val (.int r8), .val (.int r10), .val (.int r12), .val (.int r14), .val (.int r16), .val (.int r18), .val (.int r20), .val (.int v24), .val (.int v25), .val (.int v26), .val (.int v27), .val (.ref b28), .val (.ref b29), .val (.ref b30), .val (.int (Int32.ofNat na)), .val (.int (Int32.ofNat nb)), .val (.int (Int32.ofNat ne)), .val (.ref b33), .unset, .unset] [(.int (Int32.ofNat nb)), (.ref b29)])) (fun tgt cont => ?_) ?_
          · refine XS.astore X33.here hx rfl (hb hby at_367) rfl rfl (l' := #[.val (.int p1), .val (.int p2), .val (.int p3), .val (.int p4), .val (.int p5), .val (.int r2), .val (.int r4), .val (.int r6), .val (.int r8), .val (.int r10), .val (.int r12), .val (.int r14), .val (.int r16), .val (.int r18), .val (.int r20), .val (.int v24), .val (.int v25), .val (.int v26), .val (.int v27), .val (.ref b28), .val (.ref b29), .val (.ref b30), .val (.int (Int32.ofNat na)), .val (.int (Int32.ofNat nb)), .val (.int (Int32.ofNat ne)), .val (.ref b33), .unset, .unset]) rfl ?_
            refine XS.aload X33.here hx rfl (hb hby at_369) rfl rfl ?_
            refine XS.iload X33.here hx rfl (hb hby at_371) rfl ?_
            exact cont
          -- pc 373: SortedSetsUnionPinLaw.take
          have f36 := (f32_1.keep K33 nin0)
          obtain ⟨_, _, ⟨T35, L35, k35, n35⟩, -, X35, ⟨Lc35, hQ35, l35, y35, z35⟩, st35⟩ := Jvm.LawKit.callS X33 hx (y := (⟨"com/example/treebound/treebound/SortedSetsUnionPinLaw", "take", "([II)[I"⟩ : MethodName)) hown (mvT hZ (hw _ (List.mem_of_getElem? (i := 8) rfl))) (mvT hZ (hw _ (List.mem_of_getElem? (i := 9) rfl))) (mvT hZ (hw _ (List.mem_of_getElem? (i := 10) rfl))) (mvT hZ (hw _ (List.mem_of_getElem? (i := 11) rfl))) (by decide) (backOf (W := 0) (rm3 l Z a0 hw [] b29 qb nb T33.heap n0 zp33 f36 lb nb4) hZ (hw _ (List.mem_of_getElem? (i := 11) rfl)) (hw _ (List.mem_of_getElem? (i := 10) rfl)) (by decide) (by decide)) (g := (mkF m 373 #[.val (.int p1), .val (.int p2), .val (.int p3), .val (.int p4), .val (.int p5), .val (.int r2), .val (.int r4), .val (.int r6), .val (.int r8), .val (.int r10), .val (.int r12), .val (.int r14), .val (.int r16), .val (.int r18), .val (.int r20), .val (.int v24), .val (.int v25), .val (.int v26), .val (.int v27), .val (.ref b28), .val (.ref b29), .val (.ref b30), .val (.int (Int32.ofNat na)), .val (.int (Int32.ofNat nb)), .val (.int (Int32.ofNat ne)), .val (.ref b33), .unset, .unset] [(.int (Int32.ofNat nb)), (.ref b29)])) rfl (by rw [hml]; rfl) (argsL := [(.ref b29), (.int (Int32.ofNat nb))]) (rest := []) (lenOf own_pd1 rfl) rfl (by show 2 * 0 + _ ≤ _; exact Nat.le_of_eq rfl) (hb hby at_373) (fun _ _ => ⟨rfl, rfl, (by decide : 3 + 1 + 1 ≤ _), (by decide : 12 + 4 + 4 ≤ _)⟩)
          dsimp only [Pt.U, Pt.locs, Pt.cells, Pt.slots] at X35 l35 y35 z35 st35 hQ35
          subst l35 y35 z35
          have f37 := (f32_0.keep K33 nin0)
          have f38 := (f32_2.keep K33 nin0)
          obtain ⟨b35, rfl, N35q, K35, gb35, ab35, eb35⟩ := hQ35
          have N35 := Fr.app N33 N35q
          have g_b35 : n0 ≤ b35 := Nat.le_trans zp33 gb35
          have sz_b35 : h0.size ≤ b35 := Nat.le_trans kk33.1 gb35
          have ne_b28_b35 : b28 ≠ b35 := Nat.ne_of_lt (Nat.lt_of_lt_of_le f37.lt gb35)
          have ne_b29_b35 : b29 ≠ b35 := Nat.ne_of_lt (Nat.lt_of_lt_of_le f36.lt gb35)
          have ne_b30_b35 : b30 ≠ b35 := Nat.ne_of_lt (Nat.lt_of_lt_of_le f38.lt gb35)
          have ne_b33_b35 : b33 ≠ b35 := Nat.ne_of_lt (Nat.lt_of_lt_of_le eb33.lt gb35)
          have kk35 : Keep h0 T35.heap [] := kk33.trans K35 all0
          have zp35 : n0 ≤ T35.heap.size := Nat.le_trans Z0 kk35.1
          generalize hw39 : (qb.take nb) = w39 at ab35
          refine own_go (fun tgt cont => st35 tgt cont) ?_
          show own_Go p e below s (Q0 n0) room_1.cells room_1.slots (T35.setTop (mkF m 376 #[.val (.int p1), .val (.int p2), .val (.int p3), .val (.int p4), .val (.int p5), .val (.int r2), .val (.int r4), .val (.int r6), .val (.int r8), .val (.int r10), .val (.int r12), .val (.int r14), .val (.int r16), .val (.int r18), .val (.int r20), .val (.int v24), .val (.int v25), .val (.int v26), .val (.int v27), .val (.ref b28), .val (.ref b29), .val (.ref b30), .val (.int (Int32.ofNat na)), .val (.int (Int32.ofNat nb)), .val (.int (Int32.ofNat ne)), .val (.ref b33), .unset, .unset] [(.ref b35)]))
          refine own_go (B := T35.setTop (mkF m 382 #[.val (.int p1), .val (.int p2), .val (.int p3), .val (.int p4), .val (.int p5), .val (.int r2), .val (.int r4), .val (.int r6), .val (.int r8), .val (.int r10), .val (.int r12), .val (.int r14), .val (.int r16), .val (.int r18), .val (.int r20), .val (.int v24), .val (.int v25), .val (.int v26), .val (.int v27), .val (.ref b28), .val (.ref b29), .val (.ref b30), .val (.int (Int32.ofNat na)), .val (.int (Int32.ofNat nb)), .val (.int (Int32.ofNat ne)), .val (.ref b33), .val (.ref b35), .unset] [(.ref b35), (.ref b33)])) (fun tgt cont => ?_) ?_
          · refine XS.astore X35.here hx rfl (hb hby at_376) rfl rfl (l' := #[.val (.int p1), .val (.int p2), .val (.int p3), .val (.int p4), .val (.int p5), .val (.int r2), .val (.int r4), .val (.int r6), .val (.int r8), .val (.int r10), .val (.int r12), .val (.int r14), .val (.int r16), .val (.int r18), .val (.int r20), .val (.int v24), .val (.int v25), .val (.int v26), .val (.int v27), .val (.ref b28), .val (.ref b29), .val (.ref b30), .val (.int (Int32.ofNat na)), .val (.int (Int32.ofNat nb)), .val (.int (Int32.ofNat ne)), .val (.ref b33), .val (.ref b35), .unset]) rfl ?_
            refine XS.aload X35.here hx rfl (hb hby at_378) rfl rfl ?_
            refine XS.aload X35.here hx rfl (hb hby at_380) rfl rfl ?_
            exact cont
          -- pc 382: SortedSets.union
          have f41 := (ab33.keep K35 nin0)
          obtain ⟨_, _, ⟨T40, L40, k40, n40⟩, -, X40, ⟨Lc40, hQ40, l40, y40, z40⟩, st40⟩ := Jvm.LawKit.callS X35 hx (y := (⟨"com/example/treebound/treebound/SortedSets", "union", "([I[I)[I"⟩ : MethodName)) hown (mvT hZ (hw _ (List.mem_of_getElem? (i := 12) rfl))) (mvT hZ (hw _ (List.mem_of_getElem? (i := 13) rfl))) (mvT hZ (hw _ (List.mem_of_getElem? (i := 14) rfl))) (mvT hZ (hw _ (List.mem_of_getElem? (i := 15) rfl))) (by decide) (backOf (W := 0) (rm4 l Z a0 hw [] b33 b35 w34 w39 T35.heap n0 zp35 f41 ab35 (by rw [← hw34, ← hw39, List.length_take, List.length_take]; omega)) hZ (hw _ (List.mem_of_getElem? (i := 15) rfl)) (hw _ (List.mem_of_getElem? (i := 14) rfl)) (by decide) (by decide)) (g := (mkF m 382 #[.val (.int p1), .val (.int p2), .val (.int p3), .val (.int p4), .val (.int p5), .val (.int r2), .val (.int r4), .val (.int r6), .val (.int r8), .val (.int r10), .val (.int r12), .val (.int r14), .val (.int r16), .val (.int r18), .val (.int r20), .val (.int v24), .val (.int v25), .val (.int v26), .val (.int v27), .val (.ref b28), .val (.ref b29), .val (.ref b30), .val (.int (Int32.ofNat na)), .val (.int (Int32.ofNat nb)), .val (.int (Int32.ofNat ne)), .val (.ref b33), .val (.ref b35), .unset] [(.ref b35), (.ref b33)])) rfl (by rw [hml]; rfl) (argsL := [(.ref b33), (.ref b35)]) (rest := []) (lenOf own_pd2 rfl) rfl (by show 2 * 0 + _ ≤ _; exact Nat.le_of_eq rfl) (hb hby at_382) (fun _ _ => ⟨rfl, rfl, (by decide : 3 + 1 + 1 + 1 ≤ _), (by decide : 12 + 4 + 4 + 4 ≤ _)⟩)
          dsimp only [Pt.U, Pt.locs, Pt.cells, Pt.slots] at X40 l40 y40 z40 st40 hQ40
          subst l40 y40 z40
          have f42 := (f37.keep K35 nin0)
          have f43 := (f36.keep K35 nin0)
          have f44 := (f38.keep K35 nin0)
          have f45 := (eb33.keep K35)
          obtain ⟨b40, rfl, N40q, K40, gb40, ab40, eb40⟩ := hQ40
          have N40 := Fr.app N35 N40q
          have g_b40 : n0 ≤ b40 := Nat.le_trans zp35 gb40
          have sz_b40 : h0.size ≤ b40 := Nat.le_trans kk35.1 gb40
          have ne_b28_b40 : b28 ≠ b40 := Nat.ne_of_lt (Nat.lt_of_lt_of_le f42.lt gb40)
          have ne_b29_b40 : b29 ≠ b40 := Nat.ne_of_lt (Nat.lt_of_lt_of_le f43.lt gb40)
          have ne_b30_b40 : b30 ≠ b40 := Nat.ne_of_lt (Nat.lt_of_lt_of_le f44.lt gb40)
          have ne_b33_b40 : b33 ≠ b40 := Nat.ne_of_lt (Nat.lt_of_lt_of_le f45.lt gb40)
          have ne_b35_b40 : b35 ≠ b40 := Nat.ne_of_lt (Nat.lt_of_lt_of_le eb35.lt gb40)
          have kk40 : Keep h0 T40.heap [] := kk35.trans K40 all0
          have zp40 : n0 ≤ T40.heap.size := Nat.le_trans Z0 kk40.1
          generalize hw46 : (own_mg (w34.length + w39.length) w34 w39) = w46 at ab40
          refine own_go (fun tgt cont => st40 tgt cont) ?_
          show own_Go p e below s (Q0 n0) room_1.cells room_1.slots (T40.setTop (mkF m 385 #[.val (.int p1), .val (.int p2), .val (.int p3), .val (.int p4), .val (.int p5), .val (.int r2), .val (.int r4), .val (.int r6), .val (.int r8), .val (.int r10), .val (.int r12), .val (.int r14), .val (.int r16), .val (.int r18), .val (.int r20), .val (.int v24), .val (.int v25), .val (.int v26), .val (.int v27), .val (.ref b28), .val (.ref b29), .val (.ref b30), .val (.int (Int32.ofNat na)), .val (.int (Int32.ofNat nb)), .val (.int (Int32.ofNat ne)), .val (.ref b33), .val (.ref b35), .unset] [(.ref b40)]))
          refine own_go (B := T40.setTop (mkF m 387 #[.val (.int p1), .val (.int p2), .val (.int p3), .val (.int p4), .val (.int p5), .val (.int r2), .val (.int r4), .val (.int r6), .val (.int r8), .val (.int r10), .val (.int r12), .val (.int r14), .val (.int r16), .val (.int r18), .val (.int r20), .val (.int v24), .val (.int v25), .val (.int v26), .val (.int v27), .val (.ref b28), .val (.ref b29), .val (.ref b30), .val (.int (Int32.ofNat na)), .val (.int (Int32.ofNat nb)), .val (.int (Int32.ofNat ne)), .val (.ref b33), .val (.ref b35), .val (.ref b40)] [])) (fun tgt cont => ?_) ?_
          · refine XS.astore X40.here hx rfl (hb hby at_385) rfl rfl (l' := #[.val (.int p1), .val (.int p2), .val (.int p3), .val (.int p4), .val (.int p5), .val (.int r2), .val (.int r4), .val (.int r6), .val (.int r8), .val (.int r10), .val (.int r12), .val (.int r14), .val (.int r16), .val (.int r18), .val (.int r20), .val (.int v24), .val (.int v25), .val (.int v26), .val (.int v27), .val (.ref b28), .val (.ref b29), .val (.ref b30), .val (.int (Int32.ofNat na)), .val (.int (Int32.ofNat nb)), .val (.int (Int32.ofNat ne)), .val (.ref b33), .val (.ref b35), .val (.ref b40)]) rfl ?_
            exact cont
          have hU : w46 = qe.take ne := by
            rw [← hw46, ← hw34, ← hw39, ha, hpb, he]
            exact own_merge _ _ _ _ _ _ _ _ (by rw [← hv24]; exact own_and3 _) (by rw [← hv25]; exact own_and3 _) (by rw [← hv26]; exact own_and3 _) (by rw [← hv27]; exact own_and3 _) hc21 hc22 hc23
          refine own_go (B := T40.setTop (mkF m 405 #[.val (.int p1), .val (.int p2), .val (.int p3), .val (.int p4), .val (.int p5), .val (.int r2), .val (.int r4), .val (.int r6), .val (.int r8), .val (.int r10), .val (.int r12), .val (.int r14), .val (.int r16), .val (.int r18), .val (.int r20), .val (.int v24), .val (.int v25), .val (.int v26), .val (.int v27), .val (.ref b28), .val (.ref b29), .val (.ref b30), .val (.int (Int32.ofNat na)), .val (.int (Int32.ofNat nb)), .val (.int (Int32.ofNat ne)), .val (.ref b33), .val (.ref b35), .val (.ref b40)] [(.int (1 : Int32)), (.int (Int32.ofNat ne))])) (fun tgt cont => ?_) ?_
          · refine XS.aload X40.here hx rfl (hb hby at_387) rfl rfl ?_
            refine XS.ifnullNo X40.here hx rfl (hb hby at_389) rfl ?_
            refine XS.aload X40.here hx rfl (hb hby at_392) rfl rfl ?_
            refine own_lenIA X40 hx hZ rfl ab40 (g := (mkF m 394 #[.val (.int p1), .val (.int p2), .val (.int p3), .val (.int p4), .val (.int p5), .val (.int r2), .val (.int r4), .val (.int r6), .val (.int r8), .val (.int r10), .val (.int r12), .val (.int r14), .val (.int r16), .val (.int r18), .val (.int r20), .val (.int v24), .val (.int v25), .val (.int v26), .val (.int v27), .val (.ref b28), .val (.ref b29), .val (.ref b30), .val (.int (Int32.ofNat na)), .val (.int (Int32.ofNat nb)), .val (.int (Int32.ofNat ne)), .val (.ref b33), .val (.ref b35), .val (.ref b40)] [(.ref b40)])) rfl rfl (hb hby at_394) ?_
            refine XS.iload X40.here hx rfl (hb hby at_395) rfl ?_
            refine XS.icmpYes X40.here hx rfl (pc0 := 397) (pc' := 402) rfl (hb hby at_397) rfl (XT.ii_eq_t (own_rl hU le ne4)) (by decide) (by decide) ?_
            refine XS.iload X40.here hx rfl (hb hby at_402) rfl ?_
            refine XT.iconstV X40.here hx rfl (1 : Int32) (hb hby at_404) rfl ?_
            exact cont
          by_cases hc47 : (Int32.ofNat ne) < (1 : Int32)
          ·
            refine own_go (B := T40.setTop (mkF m 471 #[.val (.int p1), .val (.int p2), .val (.int p3), .val (.int p4), .val (.int p5), .val (.int r2), .val (.int r4), .val (.int r6), .val (.int r8), .val (.int r10), .val (.int r12), .val (.int r14), .val (.int r16), .val (.int r18), .val (.int r20), .val (.int v24), .val (.int v25), .val (.int v26), .val (.int v27), .val (.ref b28), .val (.ref b29), .val (.ref b30), .val (.int (Int32.ofNat na)), .val (.int (Int32.ofNat nb)), .val (.int (Int32.ofNat ne)), .val (.ref b33), .val (.ref b35), .val (.ref b40)] [(.int (1 : Int32))])) (fun tgt cont => ?_) ?_
            · refine XS.icmpYes X40.here hx rfl (pc0 := 405) (pc' := 419) rfl (hb hby at_405) rfl (XT.ii_lt_t hc47) (by decide) (by decide) ?_
              refine XS.iload X40.here hx rfl (hb hby at_419) rfl ?_
              refine XT.iconstV X40.here hx rfl (2 : Int32) (hb hby at_421) rfl ?_
              refine XS.icmpYes X40.here hx rfl (pc0 := 422) (pc' := 436) rfl (hb hby at_422) rfl (XT.ii_lt_t (own_tr hc47 (by decide))) (by decide) (by decide) ?_
              refine XS.iload X40.here hx rfl (hb hby at_436) rfl ?_
              refine XT.iconstV X40.here hx rfl (3 : Int32) (hb hby at_438) rfl ?_
              refine XS.icmpYes X40.here hx rfl (pc0 := 439) (pc' := 453) rfl (hb hby at_439) rfl (XT.ii_lt_t (own_tr hc47 (by decide))) (by decide) (by decide) ?_
              refine XS.iload X40.here hx rfl (hb hby at_453) rfl ?_
              refine XT.iconstV X40.here hx rfl (4 : Int32) (hb hby at_455) rfl ?_
              refine XS.icmpYes X40.here hx rfl (pc0 := 456) (pc' := 470) rfl (hb hby at_456) rfl (XT.ii_lt_t (own_tr hc47 (by decide))) (by decide) (by decide) ?_
              refine XT.iconstV X40.here hx rfl (1 : Int32) (hb hby at_470) rfl ?_
              exact cont
            refine own_go (B := T40.setTop (mkF m 475 #[.val (.int p1), .val (.int p2), .val (.int p3), .val (.int p4), .val (.int p5), .val (.int r2), .val (.int r4), .val (.int r6), .val (.int r8), .val (.int r10), .val (.int r12), .val (.int r14), .val (.int r16), .val (.int r18), .val (.int r20), .val (.int v24), .val (.int v25), .val (.int v26), .val (.int v27), .val (.ref b28), .val (.ref b29), .val (.ref b30), .val (.int (Int32.ofNat na)), .val (.int (Int32.ofNat nb)), .val (.int (Int32.ofNat ne)), .val (.ref b33), .val (.ref b35), .val (.ref b40)] [(.int (1 : Int32))])) (fun tgt cont => ?_) ?_
            · refine XS.goto X40.here hx rfl (pc0 := 471) (pc' := 475) rfl (hb hby at_471) (by decide) (by decide) ?_
              exact cont
            refine own_end X40 (v := some (.int (1 : Int32))) (fun h => by rw [Bd.returns] at h; cases h) hlk ?_ (by decide) (by decide) (fun fs hl => retN X40 hx (t := .boolean) Bd.returns (by simp) (hb hby at_475) hl)
            exact ⟨rfl, N40⟩
          ·
            have f48 := (f44.keep K40 nin0)
            refine own_go (B := T40.setTop (mkF m 422 #[.val (.int p1), .val (.int p2), .val (.int p3), .val (.int p4), .val (.int p5), .val (.int r2), .val (.int r4), .val (.int r6), .val (.int r8), .val (.int r10), .val (.int r12), .val (.int r14), .val (.int r16), .val (.int r18), .val (.int r20), .val (.int v24), .val (.int v25), .val (.int v26), .val (.int v27), .val (.ref b28), .val (.ref b29), .val (.ref b30), .val (.int (Int32.ofNat na)), .val (.int (Int32.ofNat nb)), .val (.int (Int32.ofNat ne)), .val (.ref b33), .val (.ref b35), .val (.ref b40)] [(.int (2 : Int32)), (.int (Int32.ofNat ne))])) (fun tgt cont => ?_) ?_
            · refine XS.icmpNo X40.here hx rfl (hb hby at_405) rfl (XT.ii_lt_f hc47) ?_
              refine XS.aload X40.here hx rfl (hb hby at_408) rfl rfl ?_
              refine XT.iconstV X40.here hx rfl (0 : Int32) (hb hby at_410) rfl ?_
              refine own_ldIA X40 hx hZ rfl ab40 (j := (0 : Int32)) (own_rb hU le ne4 hc47 (by decide) (by decide)) (g := (mkF m 411 #[.val (.int p1), .val (.int p2), .val (.int p3), .val (.int p4), .val (.int p5), .val (.int r2), .val (.int r4), .val (.int r6), .val (.int r8), .val (.int r10), .val (.int r12), .val (.int r14), .val (.int r16), .val (.int r18), .val (.int r20), .val (.int v24), .val (.int v25), .val (.int v26), .val (.int v27), .val (.ref b28), .val (.ref b29), .val (.ref b30), .val (.int (Int32.ofNat na)), .val (.int (Int32.ofNat nb)), .val (.int (Int32.ofNat ne)), .val (.ref b33), .val (.ref b35), .val (.ref b40)] [(.int (0 : Int32)), (.ref b40)])) rfl rfl (hb hby at_411) ?_
              refine XS.aload X40.here hx rfl (hb hby at_412) rfl rfl ?_
              refine XT.iconstV X40.here hx rfl (0 : Int32) (hb hby at_414) rfl ?_
              refine own_ldIA X40 hx hZ rfl f48 (j := (0 : Int32)) (own_eb le (by decide) (by decide)) (g := (mkF m 415 #[.val (.int p1), .val (.int p2), .val (.int p3), .val (.int p4), .val (.int p5), .val (.int r2), .val (.int r4), .val (.int r6), .val (.int r8), .val (.int r10), .val (.int r12), .val (.int r14), .val (.int r16), .val (.int r18), .val (.int r20), .val (.int v24), .val (.int v25), .val (.int v26), .val (.int v27), .val (.ref b28), .val (.ref b29), .val (.ref b30), .val (.int (Int32.ofNat na)), .val (.int (Int32.ofNat nb)), .val (.int (Int32.ofNat ne)), .val (.ref b33), .val (.ref b35), .val (.ref b40)] [(.int (0 : Int32)), (.ref b30), (.int (w46.getD (0 : Int32).toNatClampNeg 0))])) rfl rfl (hb hby at_415) ?_
              refine XS.icmpNo X40.here hx rfl (hb hby at_416) rfl (XT.ii_ne_f (own_rq hU ne4 hc47 (by decide))) ?_
              refine XS.iload X40.here hx rfl (hb hby at_419) rfl ?_
              refine XT.iconstV X40.here hx rfl (2 : Int32) (hb hby at_421) rfl ?_
              exact cont
            by_cases hc49 : (Int32.ofNat ne) < (2 : Int32)
            ·
              refine own_go (B := T40.setTop (mkF m 475 #[.val (.int p1), .val (.int p2), .val (.int p3), .val (.int p4), .val (.int p5), .val (.int r2), .val (.int r4), .val (.int r6), .val (.int r8), .val (.int r10), .val (.int r12), .val (.int r14), .val (.int r16), .val (.int r18), .val (.int r20), .val (.int v24), .val (.int v25), .val (.int v26), .val (.int v27), .val (.ref b28), .val (.ref b29), .val (.ref b30), .val (.int (Int32.ofNat na)), .val (.int (Int32.ofNat nb)), .val (.int (Int32.ofNat ne)), .val (.ref b33), .val (.ref b35), .val (.ref b40)] [(.int (1 : Int32))])) (fun tgt cont => ?_) ?_
              · refine XS.icmpYes X40.here hx rfl (pc0 := 422) (pc' := 436) rfl (hb hby at_422) rfl (XT.ii_lt_t hc49) (by decide) (by decide) ?_
                refine XS.iload X40.here hx rfl (hb hby at_436) rfl ?_
                refine XT.iconstV X40.here hx rfl (3 : Int32) (hb hby at_438) rfl ?_
                refine XS.icmpYes X40.here hx rfl (pc0 := 439) (pc' := 453) rfl (hb hby at_439) rfl (XT.ii_lt_t (own_tr hc49 (by decide))) (by decide) (by decide) ?_
                refine XS.iload X40.here hx rfl (hb hby at_453) rfl ?_
                refine XT.iconstV X40.here hx rfl (4 : Int32) (hb hby at_455) rfl ?_
                refine XS.icmpYes X40.here hx rfl (pc0 := 456) (pc' := 470) rfl (hb hby at_456) rfl (XT.ii_lt_t (own_tr hc49 (by decide))) (by decide) (by decide) ?_
                refine XT.iconstV X40.here hx rfl (1 : Int32) (hb hby at_470) rfl ?_
                refine XS.goto X40.here hx rfl (pc0 := 471) (pc' := 475) rfl (hb hby at_471) (by decide) (by decide) ?_
                exact cont
              refine own_end X40 (v := some (.int (1 : Int32))) (fun h => by rw [Bd.returns] at h; cases h) hlk ?_ (by decide) (by decide) (fun fs hl => retN X40 hx (t := .boolean) Bd.returns (by simp) (hb hby at_475) hl)
              exact ⟨rfl, N40⟩
            ·
              refine own_go (B := T40.setTop (mkF m 439 #[.val (.int p1), .val (.int p2), .val (.int p3), .val (.int p4), .val (.int p5), .val (.int r2), .val (.int r4), .val (.int r6), .val (.int r8), .val (.int r10), .val (.int r12), .val (.int r14), .val (.int r16), .val (.int r18), .val (.int r20), .val (.int v24), .val (.int v25), .val (.int v26), .val (.int v27), .val (.ref b28), .val (.ref b29), .val (.ref b30), .val (.int (Int32.ofNat na)), .val (.int (Int32.ofNat nb)), .val (.int (Int32.ofNat ne)), .val (.ref b33), .val (.ref b35), .val (.ref b40)] [(.int (3 : Int32)), (.int (Int32.ofNat ne))])) (fun tgt cont => ?_) ?_
              · refine XS.icmpNo X40.here hx rfl (hb hby at_422) rfl (XT.ii_lt_f hc49) ?_
                refine XS.aload X40.here hx rfl (hb hby at_425) rfl rfl ?_
                refine XT.iconstV X40.here hx rfl (1 : Int32) (hb hby at_427) rfl ?_
                refine own_ldIA X40 hx hZ rfl ab40 (j := (1 : Int32)) (own_rb hU le ne4 hc49 (by decide) (by decide)) (g := (mkF m 428 #[.val (.int p1), .val (.int p2), .val (.int p3), .val (.int p4), .val (.int p5), .val (.int r2), .val (.int r4), .val (.int r6), .val (.int r8), .val (.int r10), .val (.int r12), .val (.int r14), .val (.int r16), .val (.int r18), .val (.int r20), .val (.int v24), .val (.int v25), .val (.int v26), .val (.int v27), .val (.ref b28), .val (.ref b29), .val (.ref b30), .val (.int (Int32.ofNat na)), .val (.int (Int32.ofNat nb)), .val (.int (Int32.ofNat ne)), .val (.ref b33), .val (.ref b35), .val (.ref b40)] [(.int (1 : Int32)), (.ref b40)])) rfl rfl (hb hby at_428) ?_
                refine XS.aload X40.here hx rfl (hb hby at_429) rfl rfl ?_
                refine XT.iconstV X40.here hx rfl (1 : Int32) (hb hby at_431) rfl ?_
                refine own_ldIA X40 hx hZ rfl f48 (j := (1 : Int32)) (own_eb le (by decide) (by decide)) (g := (mkF m 432 #[.val (.int p1), .val (.int p2), .val (.int p3), .val (.int p4), .val (.int p5), .val (.int r2), .val (.int r4), .val (.int r6), .val (.int r8), .val (.int r10), .val (.int r12), .val (.int r14), .val (.int r16), .val (.int r18), .val (.int r20), .val (.int v24), .val (.int v25), .val (.int v26), .val (.int v27), .val (.ref b28), .val (.ref b29), .val (.ref b30), .val (.int (Int32.ofNat na)), .val (.int (Int32.ofNat nb)), .val (.int (Int32.ofNat ne)), .val (.ref b33), .val (.ref b35), .val (.ref b40)] [(.int (1 : Int32)), (.ref b30), (.int (w46.getD (1 : Int32).toNatClampNeg 0))])) rfl rfl (hb hby at_432) ?_
                refine XS.icmpNo X40.here hx rfl (hb hby at_433) rfl (XT.ii_ne_f (own_rq hU ne4 hc49 (by decide))) ?_
                refine XS.iload X40.here hx rfl (hb hby at_436) rfl ?_
                refine XT.iconstV X40.here hx rfl (3 : Int32) (hb hby at_438) rfl ?_
                exact cont
              by_cases hc50 : (Int32.ofNat ne) < (3 : Int32)
              ·
                refine own_go (B := T40.setTop (mkF m 475 #[.val (.int p1), .val (.int p2), .val (.int p3), .val (.int p4), .val (.int p5), .val (.int r2), .val (.int r4), .val (.int r6), .val (.int r8), .val (.int r10), .val (.int r12), .val (.int r14), .val (.int r16), .val (.int r18), .val (.int r20), .val (.int v24), .val (.int v25), .val (.int v26), .val (.int v27), .val (.ref b28), .val (.ref b29), .val (.ref b30), .val (.int (Int32.ofNat na)), .val (.int (Int32.ofNat nb)), .val (.int (Int32.ofNat ne)), .val (.ref b33), .val (.ref b35), .val (.ref b40)] [(.int (1 : Int32))])) (fun tgt cont => ?_) ?_
                · refine XS.icmpYes X40.here hx rfl (pc0 := 439) (pc' := 453) rfl (hb hby at_439) rfl (XT.ii_lt_t hc50) (by decide) (by decide) ?_
                  refine XS.iload X40.here hx rfl (hb hby at_453) rfl ?_
                  refine XT.iconstV X40.here hx rfl (4 : Int32) (hb hby at_455) rfl ?_
                  refine XS.icmpYes X40.here hx rfl (pc0 := 456) (pc' := 470) rfl (hb hby at_456) rfl (XT.ii_lt_t (own_tr hc50 (by decide))) (by decide) (by decide) ?_
                  refine XT.iconstV X40.here hx rfl (1 : Int32) (hb hby at_470) rfl ?_
                  refine XS.goto X40.here hx rfl (pc0 := 471) (pc' := 475) rfl (hb hby at_471) (by decide) (by decide) ?_
                  exact cont
                refine own_end X40 (v := some (.int (1 : Int32))) (fun h => by rw [Bd.returns] at h; cases h) hlk ?_ (by decide) (by decide) (fun fs hl => retN X40 hx (t := .boolean) Bd.returns (by simp) (hb hby at_475) hl)
                exact ⟨rfl, N40⟩
              ·
                refine own_go (B := T40.setTop (mkF m 456 #[.val (.int p1), .val (.int p2), .val (.int p3), .val (.int p4), .val (.int p5), .val (.int r2), .val (.int r4), .val (.int r6), .val (.int r8), .val (.int r10), .val (.int r12), .val (.int r14), .val (.int r16), .val (.int r18), .val (.int r20), .val (.int v24), .val (.int v25), .val (.int v26), .val (.int v27), .val (.ref b28), .val (.ref b29), .val (.ref b30), .val (.int (Int32.ofNat na)), .val (.int (Int32.ofNat nb)), .val (.int (Int32.ofNat ne)), .val (.ref b33), .val (.ref b35), .val (.ref b40)] [(.int (4 : Int32)), (.int (Int32.ofNat ne))])) (fun tgt cont => ?_) ?_
                · refine XS.icmpNo X40.here hx rfl (hb hby at_439) rfl (XT.ii_lt_f hc50) ?_
                  refine XS.aload X40.here hx rfl (hb hby at_442) rfl rfl ?_
                  refine XT.iconstV X40.here hx rfl (2 : Int32) (hb hby at_444) rfl ?_
                  refine own_ldIA X40 hx hZ rfl ab40 (j := (2 : Int32)) (own_rb hU le ne4 hc50 (by decide) (by decide)) (g := (mkF m 445 #[.val (.int p1), .val (.int p2), .val (.int p3), .val (.int p4), .val (.int p5), .val (.int r2), .val (.int r4), .val (.int r6), .val (.int r8), .val (.int r10), .val (.int r12), .val (.int r14), .val (.int r16), .val (.int r18), .val (.int r20), .val (.int v24), .val (.int v25), .val (.int v26), .val (.int v27), .val (.ref b28), .val (.ref b29), .val (.ref b30), .val (.int (Int32.ofNat na)), .val (.int (Int32.ofNat nb)), .val (.int (Int32.ofNat ne)), .val (.ref b33), .val (.ref b35), .val (.ref b40)] [(.int (2 : Int32)), (.ref b40)])) rfl rfl (hb hby at_445) ?_
                  refine XS.aload X40.here hx rfl (hb hby at_446) rfl rfl ?_
                  refine XT.iconstV X40.here hx rfl (2 : Int32) (hb hby at_448) rfl ?_
                  refine own_ldIA X40 hx hZ rfl f48 (j := (2 : Int32)) (own_eb le (by decide) (by decide)) (g := (mkF m 449 #[.val (.int p1), .val (.int p2), .val (.int p3), .val (.int p4), .val (.int p5), .val (.int r2), .val (.int r4), .val (.int r6), .val (.int r8), .val (.int r10), .val (.int r12), .val (.int r14), .val (.int r16), .val (.int r18), .val (.int r20), .val (.int v24), .val (.int v25), .val (.int v26), .val (.int v27), .val (.ref b28), .val (.ref b29), .val (.ref b30), .val (.int (Int32.ofNat na)), .val (.int (Int32.ofNat nb)), .val (.int (Int32.ofNat ne)), .val (.ref b33), .val (.ref b35), .val (.ref b40)] [(.int (2 : Int32)), (.ref b30), (.int (w46.getD (2 : Int32).toNatClampNeg 0))])) rfl rfl (hb hby at_449) ?_
                  refine XS.icmpNo X40.here hx rfl (hb hby at_450) rfl (XT.ii_ne_f (own_rq hU ne4 hc50 (by decide))) ?_
                  refine XS.iload X40.here hx rfl (hb hby at_453) rfl ?_
                  refine XT.iconstV X40.here hx rfl (4 : Int32) (hb hby at_455) rfl ?_
                  exact cont
                by_cases hc51 : (Int32.ofNat ne) < (4 : Int32)
                ·
                  refine own_go (B := T40.setTop (mkF m 475 #[.val (.int p1), .val (.int p2), .val (.int p3), .val (.int p4), .val (.int p5), .val (.int r2), .val (.int r4), .val (.int r6), .val (.int r8), .val (.int r10), .val (.int r12), .val (.int r14), .val (.int r16), .val (.int r18), .val (.int r20), .val (.int v24), .val (.int v25), .val (.int v26), .val (.int v27), .val (.ref b28), .val (.ref b29), .val (.ref b30), .val (.int (Int32.ofNat na)), .val (.int (Int32.ofNat nb)), .val (.int (Int32.ofNat ne)), .val (.ref b33), .val (.ref b35), .val (.ref b40)] [(.int (1 : Int32))])) (fun tgt cont => ?_) ?_
                  · refine XS.icmpYes X40.here hx rfl (pc0 := 456) (pc' := 470) rfl (hb hby at_456) rfl (XT.ii_lt_t hc51) (by decide) (by decide) ?_
                    refine XT.iconstV X40.here hx rfl (1 : Int32) (hb hby at_470) rfl ?_
                    refine XS.goto X40.here hx rfl (pc0 := 471) (pc' := 475) rfl (hb hby at_471) (by decide) (by decide) ?_
                    exact cont
                  refine own_end X40 (v := some (.int (1 : Int32))) (fun h => by rw [Bd.returns] at h; cases h) hlk ?_ (by decide) (by decide) (fun fs hl => retN X40 hx (t := .boolean) Bd.returns (by simp) (hb hby at_475) hl)
                  exact ⟨rfl, N40⟩
                ·
                  refine own_go (B := T40.setTop (mkF m 475 #[.val (.int p1), .val (.int p2), .val (.int p3), .val (.int p4), .val (.int p5), .val (.int r2), .val (.int r4), .val (.int r6), .val (.int r8), .val (.int r10), .val (.int r12), .val (.int r14), .val (.int r16), .val (.int r18), .val (.int r20), .val (.int v24), .val (.int v25), .val (.int v26), .val (.int v27), .val (.ref b28), .val (.ref b29), .val (.ref b30), .val (.int (Int32.ofNat na)), .val (.int (Int32.ofNat nb)), .val (.int (Int32.ofNat ne)), .val (.ref b33), .val (.ref b35), .val (.ref b40)] [(.int (1 : Int32))])) (fun tgt cont => ?_) ?_
                  · refine XS.icmpNo X40.here hx rfl (hb hby at_456) rfl (XT.ii_lt_f hc51) ?_
                    refine XS.aload X40.here hx rfl (hb hby at_459) rfl rfl ?_
                    refine XT.iconstV X40.here hx rfl (3 : Int32) (hb hby at_461) rfl ?_
                    refine own_ldIA X40 hx hZ rfl ab40 (j := (3 : Int32)) (own_rb hU le ne4 hc51 (by decide) (by decide)) (g := (mkF m 462 #[.val (.int p1), .val (.int p2), .val (.int p3), .val (.int p4), .val (.int p5), .val (.int r2), .val (.int r4), .val (.int r6), .val (.int r8), .val (.int r10), .val (.int r12), .val (.int r14), .val (.int r16), .val (.int r18), .val (.int r20), .val (.int v24), .val (.int v25), .val (.int v26), .val (.int v27), .val (.ref b28), .val (.ref b29), .val (.ref b30), .val (.int (Int32.ofNat na)), .val (.int (Int32.ofNat nb)), .val (.int (Int32.ofNat ne)), .val (.ref b33), .val (.ref b35), .val (.ref b40)] [(.int (3 : Int32)), (.ref b40)])) rfl rfl (hb hby at_462) ?_
                    refine XS.aload X40.here hx rfl (hb hby at_463) rfl rfl ?_
                    refine XT.iconstV X40.here hx rfl (3 : Int32) (hb hby at_465) rfl ?_
                    refine own_ldIA X40 hx hZ rfl f48 (j := (3 : Int32)) (own_eb le (by decide) (by decide)) (g := (mkF m 466 #[.val (.int p1), .val (.int p2), .val (.int p3), .val (.int p4), .val (.int p5), .val (.int r2), .val (.int r4), .val (.int r6), .val (.int r8), .val (.int r10), .val (.int r12), .val (.int r14), .val (.int r16), .val (.int r18), .val (.int r20), .val (.int v24), .val (.int v25), .val (.int v26), .val (.int v27), .val (.ref b28), .val (.ref b29), .val (.ref b30), .val (.int (Int32.ofNat na)), .val (.int (Int32.ofNat nb)), .val (.int (Int32.ofNat ne)), .val (.ref b33), .val (.ref b35), .val (.ref b40)] [(.int (3 : Int32)), (.ref b30), (.int (w46.getD (3 : Int32).toNatClampNeg 0))])) rfl rfl (hb hby at_466) ?_
                    refine XS.icmpNo X40.here hx rfl (hb hby at_467) rfl (XT.ii_ne_f (own_rq hU ne4 hc51 (by decide))) ?_
                    refine XT.iconstV X40.here hx rfl (1 : Int32) (hb hby at_470) rfl ?_
                    refine XS.goto X40.here hx rfl (pc0 := 471) (pc' := 475) rfl (hb hby at_471) (by decide) (by decide) ?_
                    exact cont
                  refine own_end X40 (v := some (.int (1 : Int32))) (fun h => by rw [Bd.returns] at h; cases h) hlk ?_ (by decide) (by decide) (fun fs hl => retN X40 hx (t := .boolean) Bd.returns (by simp) (hb hby at_475) hl)
                  exact ⟨rfl, N40⟩
        have KE3 : ∀ (T52 : State) (L52 : List Loc) (h52 : Heap) (na nb ne : Nat) (qa qb qe : List Int32) (X52 : Stand p l e room_1 s m #[(.int p1), (.int p2), (.int p3), (.int p4), (.int p5)] below meth c T52 L52 3 12) (e52 : T52.heap = h52) (N52 : Fr n0 L52) (kk52 : Keep h0 h52 []) (f52_0 : own_IA Z h52 b28 qa) (f52_1 : own_IA Z h52 b29 qb) (f52_2 : own_IA Z h52 b30 qe) (la : qa.length = 4) (lb : qb.length = 4) (le : qe.length = 4) (na3 : na ≤ 3) (nb3 : nb ≤ 3) (ne3 : ne ≤ 3) (nab : na + nb ≤ 3) (ha : qa.take na = own_pa v24 r10 ++ own_pa v25 r18 ++ own_pa v26 r20) (hpb : qb.take nb = own_pb v24 r10 ++ own_pb v25 r18 ++ own_pb v26 r20) (he : qe.take ne = own_pe v24 r10 ++ own_pe v25 r18 ++ own_pe v26 r20), own_Go p e below s (Q0 n0) room_1.cells room_1.slots (T52.setTop (mkF m 310 #[.val (.int p1), .val (.int p2), .val (.int p3), .val (.int p4), .val (.int p5), .val (.int r2), .val (.int r4), .val (.int r6), .val (.int r8), .val (.int r10), .val (.int r12), .val (.int r14), .val (.int r16), .val (.int r18), .val (.int r20), .val (.int v24), .val (.int v25), .val (.int v26), .val (.int v27), .val (.ref b28), .val (.ref b29), .val (.ref b30), .val (.int (Int32.ofNat na)), .val (.int (Int32.ofNat nb)), .val (.int (Int32.ofNat ne)), .unset, .unset, .unset] [])) := by
          intro T52 L52 h52 na nb ne qa qb qe X52 e52 N52 kk52 f52_0 f52_1 f52_2 la lb le na3 nb3 ne3 nab ha hpb he
          have zp52 : n0 ≤ h52.size := Nat.le_trans Z0 kk52.1
          refine own_go (B := T52.setTop (mkF m 313 #[.val (.int p1), .val (.int p2), .val (.int p3), .val (.int p4), .val (.int p5), .val (.int r2), .val (.int r4), .val (.int r6), .val (.int r8), .val (.int r10), .val (.int r12), .val (.int r14), .val (.int r16), .val (.int r18), .val (.int r20), .val (.int v24), .val (.int v25), .val (.int v26), .val (.int v27), .val (.ref b28), .val (.ref b29), .val (.ref b30), .val (.int (Int32.ofNat na)), .val (.int (Int32.ofNat nb)), .val (.int (Int32.ofNat ne)), .unset, .unset, .unset] [(.int (1 : Int32)), (.int v27)])) (fun tgt cont => ?_) ?_
          · refine XS.iload X52.here hx rfl (hb hby at_310) rfl ?_
            refine XT.iconstV X52.here hx rfl (1 : Int32) (hb hby at_312) rfl ?_
            exact cont
          by_cases hc53 : v27 = (1 : Int32)
          ·
            refine own_go (B := T52.setTop (mkF m 322 #[.val (.int p1), .val (.int p2), .val (.int p3), .val (.int p4), .val (.int p5), .val (.int r2), .val (.int r4), .val (.int r6), .val (.int r8), .val (.int r10), .val (.int r12), .val (.int r14), .val (.int r16), .val (.int r18), .val (.int r20), .val (.int v24), .val (.int v25), .val (.int v26), .val (.int v27), .val (.ref b28), .val (.ref b29), .val (.ref b30), .val (.int (Int32.ofNat na)), .val (.int (Int32.ofNat nb)), .val (.int (Int32.ofNat ne)), .unset, .unset, .unset] [(.int r16), (.int (Int32.ofNat na)), (.ref b28)])) (fun tgt cont => ?_) ?_
            · refine XS.icmpNo X52.here hx rfl (hb hby at_313) rfl (XT.ii_ne_f hc53) ?_
              refine XS.aload X52.here hx rfl (hb hby at_316) rfl rfl ?_
              refine XS.iload X52.here hx rfl (hb hby at_318) rfl ?_
              refine XS.iload X52.here hx rfl (hb hby at_320) rfl ?_
              exact cont
            obtain ⟨T54, h54, X54, e54, W54, A54, st54⟩ := own_stIAn X52 hx hZ e52 f52_0 (i := na) (x := r16) (by omega) (g := (mkF m 322 #[.val (.int p1), .val (.int p2), .val (.int p3), .val (.int p4), .val (.int p5), .val (.int r2), .val (.int r4), .val (.int r6), .val (.int r8), .val (.int r10), .val (.int r12), .val (.int r14), .val (.int r16), .val (.int r18), .val (.int r20), .val (.int v24), .val (.int v25), .val (.int v26), .val (.int v27), .val (.ref b28), .val (.ref b29), .val (.ref b30), .val (.int (Int32.ofNat na)), .val (.int (Int32.ofNat nb)), .val (.int (Int32.ofNat ne)), .unset, .unset, .unset] [(.int r16), (.int (Int32.ofNat na)), (.ref b28)])) rfl rfl (hb hby at_322)
            have N54 := Fr.snoc X54 N52 g_b28
            have kk54 : Keep h0 h54 [] := kk52.wr W54 (Or.inr sz_b28)
            have zp54 : n0 ≤ h54.size := Nat.le_trans Z0 kk54.1
            refine own_go (fun tgt cont => st54 tgt cont) ?_
            show own_Go p e below s (Q0 n0) room_1.cells room_1.slots (T54.setTop (mkF m 323 #[.val (.int p1), .val (.int p2), .val (.int p3), .val (.int p4), .val (.int p5), .val (.int r2), .val (.int r4), .val (.int r6), .val (.int r8), .val (.int r10), .val (.int r12), .val (.int r14), .val (.int r16), .val (.int r18), .val (.int r20), .val (.int v24), .val (.int v25), .val (.int v26), .val (.int v27), .val (.ref b28), .val (.ref b29), .val (.ref b30), .val (.int (Int32.ofNat na)), .val (.int (Int32.ofNat nb)), .val (.int (Int32.ofNat ne)), .unset, .unset, .unset] []))
            refine own_go (B := T54.setTop (mkF m 356 #[.val (.int p1), .val (.int p2), .val (.int p3), .val (.int p4), .val (.int p5), .val (.int r2), .val (.int r4), .val (.int r6), .val (.int r8), .val (.int r10), .val (.int r12), .val (.int r14), .val (.int r16), .val (.int r18), .val (.int r20), .val (.int v24), .val (.int v25), .val (.int v26), .val (.int v27), .val (.ref b28), .val (.ref b29), .val (.ref b30), .val (.int ((Int32.ofNat na) + (1 : Int32))), .val (.int (Int32.ofNat nb)), .val (.int (Int32.ofNat ne)), .unset, .unset, .unset] [(.int r16), (.int (Int32.ofNat ne)), (.ref b30)])) (fun tgt cont => ?_) ?_
            · refine XT.iincV X54.here hx rfl (1 : Int32) (hb hby at_323) rfl rfl (l' := #[.val (.int p1), .val (.int p2), .val (.int p3), .val (.int p4), .val (.int p5), .val (.int r2), .val (.int r4), .val (.int r6), .val (.int r8), .val (.int r10), .val (.int r12), .val (.int r14), .val (.int r16), .val (.int r18), .val (.int r20), .val (.int v24), .val (.int v25), .val (.int v26), .val (.int v27), .val (.ref b28), .val (.ref b29), .val (.ref b30), .val (.int ((Int32.ofNat na) + (1 : Int32))), .val (.int (Int32.ofNat nb)), .val (.int (Int32.ofNat ne)), .unset, .unset, .unset]) rfl ?_
              refine XS.goto X54.here hx rfl (pc0 := 326) (pc' := 345) rfl (hb hby at_326) (by decide) (by decide) ?_
              refine XS.iload X54.here hx rfl (hb hby at_345) rfl ?_
              refine XS.ifNo X54.here hx rfl (hb hby at_347) rfl (XT.i0_eq_f (by rw [hc53]; decide)) ?_
              refine XS.aload X54.here hx rfl (hb hby at_350) rfl rfl ?_
              refine XS.iload X54.here hx rfl (hb hby at_352) rfl ?_
              refine XS.iload X54.here hx rfl (hb hby at_354) rfl ?_
              exact cont
            have f55 := (f52_2.other W54 (Ne.symm ne_b28_b30))
            obtain ⟨T56, h56, X56, e56, W56, A56, st56⟩ := own_stIAn X54 hx hZ e54 f55 (i := ne) (x := r16) (by omega) (g := (mkF m 356 #[.val (.int p1), .val (.int p2), .val (.int p3), .val (.int p4), .val (.int p5), .val (.int r2), .val (.int r4), .val (.int r6), .val (.int r8), .val (.int r10), .val (.int r12), .val (.int r14), .val (.int r16), .val (.int r18), .val (.int r20), .val (.int v24), .val (.int v25), .val (.int v26), .val (.int v27), .val (.ref b28), .val (.ref b29), .val (.ref b30), .val (.int ((Int32.ofNat na) + (1 : Int32))), .val (.int (Int32.ofNat nb)), .val (.int (Int32.ofNat ne)), .unset, .unset, .unset] [(.int r16), (.int (Int32.ofNat ne)), (.ref b30)])) rfl rfl (hb hby at_356)
            have N56 := Fr.snoc X56 N54 g_b30
            have kk56 : Keep h0 h56 [] := kk54.wr W56 (Or.inr sz_b30)
            have zp56 : n0 ≤ h56.size := Nat.le_trans Z0 kk56.1
            refine own_go (fun tgt cont => st56 tgt cont) ?_
            show own_Go p e below s (Q0 n0) room_1.cells room_1.slots (T56.setTop (mkF m 357 #[.val (.int p1), .val (.int p2), .val (.int p3), .val (.int p4), .val (.int p5), .val (.int r2), .val (.int r4), .val (.int r6), .val (.int r8), .val (.int r10), .val (.int r12), .val (.int r14), .val (.int r16), .val (.int r18), .val (.int r20), .val (.int v24), .val (.int v25), .val (.int v26), .val (.int v27), .val (.ref b28), .val (.ref b29), .val (.ref b30), .val (.int ((Int32.ofNat na) + (1 : Int32))), .val (.int (Int32.ofNat nb)), .val (.int (Int32.ofNat ne)), .unset, .unset, .unset] []))
            refine own_go (B := T56.setTop (mkF m 360 #[.val (.int p1), .val (.int p2), .val (.int p3), .val (.int p4), .val (.int p5), .val (.int r2), .val (.int r4), .val (.int r6), .val (.int r8), .val (.int r10), .val (.int r12), .val (.int r14), .val (.int r16), .val (.int r18), .val (.int r20), .val (.int v24), .val (.int v25), .val (.int v26), .val (.int v27), .val (.ref b28), .val (.ref b29), .val (.ref b30), .val (.int ((Int32.ofNat na) + (1 : Int32))), .val (.int (Int32.ofNat nb)), .val (.int ((Int32.ofNat ne) + (1 : Int32))), .unset, .unset, .unset] [])) (fun tgt cont => ?_) ?_
            · refine XT.iincV X56.here hx rfl (1 : Int32) (hb hby at_357) rfl rfl (l' := #[.val (.int p1), .val (.int p2), .val (.int p3), .val (.int p4), .val (.int p5), .val (.int r2), .val (.int r4), .val (.int r6), .val (.int r8), .val (.int r10), .val (.int r12), .val (.int r14), .val (.int r16), .val (.int r18), .val (.int r20), .val (.int v24), .val (.int v25), .val (.int v26), .val (.int v27), .val (.ref b28), .val (.ref b29), .val (.ref b30), .val (.int ((Int32.ofNat na) + (1 : Int32))), .val (.int (Int32.ofNat nb)), .val (.int ((Int32.ofNat ne) + (1 : Int32))), .unset, .unset, .unset]) rfl ?_
              exact cont
            simp only [own_one]
            have f57 := (A54.other W56 ne_b28_b30)
            have f58 := ((f52_1.other W54 (Ne.symm ne_b28_b29)).other W56 ne_b29_b30)
            exact KE4 _ _ _ (na + 1) nb (ne + 1) _ _ _ (own_wide X56 (by decide) (by decide)) e56 N56 kk56 f57 f58 A56 (by rw [List.length_set]; exact la) lb (by rw [List.length_set]; exact le) (by omega) (by omega) (by omega) (by omega) (by rw [own_take_set (by omega), ha, own_pa_y hc53]) (by rw [hpb, own_pb_a hc53, List.append_nil]) (by rw [own_take_set (by omega), he, own_pe_y (c := v27) (v := r16) (by rw [hc53]; decide)])
          ·
            refine own_go (B := T52.setTop (mkF m 332 #[.val (.int p1), .val (.int p2), .val (.int p3), .val (.int p4), .val (.int p5), .val (.int r2), .val (.int r4), .val (.int r6), .val (.int r8), .val (.int r10), .val (.int r12), .val (.int r14), .val (.int r16), .val (.int r18), .val (.int r20), .val (.int v24), .val (.int v25), .val (.int v26), .val (.int v27), .val (.ref b28), .val (.ref b29), .val (.ref b30), .val (.int (Int32.ofNat na)), .val (.int (Int32.ofNat nb)), .val (.int (Int32.ofNat ne)), .unset, .unset, .unset] [(.int (2 : Int32)), (.int v27)])) (fun tgt cont => ?_) ?_
            · refine XS.icmpYes X52.here hx rfl (pc0 := 313) (pc' := 329) rfl (hb hby at_313) rfl (XT.ii_ne_t hc53) (by decide) (by decide) ?_
              refine XS.iload X52.here hx rfl (hb hby at_329) rfl ?_
              refine XT.iconstV X52.here hx rfl (2 : Int32) (hb hby at_331) rfl ?_
              exact cont
            by_cases hc59 : v27 < (2 : Int32)
            ·
              refine own_go (B := T52.setTop (mkF m 347 #[.val (.int p1), .val (.int p2), .val (.int p3), .val (.int p4), .val (.int p5), .val (.int r2), .val (.int r4), .val (.int r6), .val (.int r8), .val (.int r10), .val (.int r12), .val (.int r14), .val (.int r16), .val (.int r18), .val (.int r20), .val (.int v24), .val (.int v25), .val (.int v26), .val (.int v27), .val (.ref b28), .val (.ref b29), .val (.ref b30), .val (.int (Int32.ofNat na)), .val (.int (Int32.ofNat nb)), .val (.int (Int32.ofNat ne)), .unset, .unset, .unset] [(.int v27)])) (fun tgt cont => ?_) ?_
              · refine XS.icmpYes X52.here hx rfl (pc0 := 332) (pc' := 345) rfl (hb hby at_332) rfl (XT.ii_lt_t hc59) (by decide) (by decide) ?_
                refine XS.iload X52.here hx rfl (hb hby at_345) rfl ?_
                exact cont
              by_cases hc60 : v27 = 0
              ·
                refine own_go (B := T52.setTop (mkF m 360 #[.val (.int p1), .val (.int p2), .val (.int p3), .val (.int p4), .val (.int p5), .val (.int r2), .val (.int r4), .val (.int r6), .val (.int r8), .val (.int r10), .val (.int r12), .val (.int r14), .val (.int r16), .val (.int r18), .val (.int r20), .val (.int v24), .val (.int v25), .val (.int v26), .val (.int v27), .val (.ref b28), .val (.ref b29), .val (.ref b30), .val (.int (Int32.ofNat na)), .val (.int (Int32.ofNat nb)), .val (.int (Int32.ofNat ne)), .unset, .unset, .unset] [])) (fun tgt cont => ?_) ?_
                · refine XS.ifYes X52.here hx rfl (pc0 := 347) (pc' := 360) rfl (hb hby at_347) rfl (XT.i0_eq_t hc60) (by decide) (by decide) ?_
                  exact cont
                exact KE4 _ _ _ na nb ne _ _ _ (own_wide X52 (by decide) (by decide)) e52 N52 kk52 f52_0 f52_1 f52_2 la lb le (by omega) (by omega) (by omega) (by omega) (by rw [ha, own_pa_n hc53, List.append_nil]) (by rw [hpb, own_pb_n hc53 hc59, List.append_nil]) (by rw [he, own_pe_n (c := v27) (v := r16) hc60, List.append_nil])
              ·
                refine own_go (B := T52.setTop (mkF m 356 #[.val (.int p1), .val (.int p2), .val (.int p3), .val (.int p4), .val (.int p5), .val (.int r2), .val (.int r4), .val (.int r6), .val (.int r8), .val (.int r10), .val (.int r12), .val (.int r14), .val (.int r16), .val (.int r18), .val (.int r20), .val (.int v24), .val (.int v25), .val (.int v26), .val (.int v27), .val (.ref b28), .val (.ref b29), .val (.ref b30), .val (.int (Int32.ofNat na)), .val (.int (Int32.ofNat nb)), .val (.int (Int32.ofNat ne)), .unset, .unset, .unset] [(.int r16), (.int (Int32.ofNat ne)), (.ref b30)])) (fun tgt cont => ?_) ?_
                · refine XS.ifNo X52.here hx rfl (hb hby at_347) rfl (XT.i0_eq_f hc60) ?_
                  refine XS.aload X52.here hx rfl (hb hby at_350) rfl rfl ?_
                  refine XS.iload X52.here hx rfl (hb hby at_352) rfl ?_
                  refine XS.iload X52.here hx rfl (hb hby at_354) rfl ?_
                  exact cont
                obtain ⟨T61, h61, X61, e61, W61, A61, st61⟩ := own_stIAn X52 hx hZ e52 f52_2 (i := ne) (x := r16) (by omega) (g := (mkF m 356 #[.val (.int p1), .val (.int p2), .val (.int p3), .val (.int p4), .val (.int p5), .val (.int r2), .val (.int r4), .val (.int r6), .val (.int r8), .val (.int r10), .val (.int r12), .val (.int r14), .val (.int r16), .val (.int r18), .val (.int r20), .val (.int v24), .val (.int v25), .val (.int v26), .val (.int v27), .val (.ref b28), .val (.ref b29), .val (.ref b30), .val (.int (Int32.ofNat na)), .val (.int (Int32.ofNat nb)), .val (.int (Int32.ofNat ne)), .unset, .unset, .unset] [(.int r16), (.int (Int32.ofNat ne)), (.ref b30)])) rfl rfl (hb hby at_356)
                have N61 := Fr.snoc X61 N52 g_b30
                have kk61 : Keep h0 h61 [] := kk52.wr W61 (Or.inr sz_b30)
                have zp61 : n0 ≤ h61.size := Nat.le_trans Z0 kk61.1
                refine own_go (fun tgt cont => st61 tgt cont) ?_
                show own_Go p e below s (Q0 n0) room_1.cells room_1.slots (T61.setTop (mkF m 357 #[.val (.int p1), .val (.int p2), .val (.int p3), .val (.int p4), .val (.int p5), .val (.int r2), .val (.int r4), .val (.int r6), .val (.int r8), .val (.int r10), .val (.int r12), .val (.int r14), .val (.int r16), .val (.int r18), .val (.int r20), .val (.int v24), .val (.int v25), .val (.int v26), .val (.int v27), .val (.ref b28), .val (.ref b29), .val (.ref b30), .val (.int (Int32.ofNat na)), .val (.int (Int32.ofNat nb)), .val (.int (Int32.ofNat ne)), .unset, .unset, .unset] []))
                refine own_go (B := T61.setTop (mkF m 360 #[.val (.int p1), .val (.int p2), .val (.int p3), .val (.int p4), .val (.int p5), .val (.int r2), .val (.int r4), .val (.int r6), .val (.int r8), .val (.int r10), .val (.int r12), .val (.int r14), .val (.int r16), .val (.int r18), .val (.int r20), .val (.int v24), .val (.int v25), .val (.int v26), .val (.int v27), .val (.ref b28), .val (.ref b29), .val (.ref b30), .val (.int (Int32.ofNat na)), .val (.int (Int32.ofNat nb)), .val (.int ((Int32.ofNat ne) + (1 : Int32))), .unset, .unset, .unset] [])) (fun tgt cont => ?_) ?_
                · refine XT.iincV X61.here hx rfl (1 : Int32) (hb hby at_357) rfl rfl (l' := #[.val (.int p1), .val (.int p2), .val (.int p3), .val (.int p4), .val (.int p5), .val (.int r2), .val (.int r4), .val (.int r6), .val (.int r8), .val (.int r10), .val (.int r12), .val (.int r14), .val (.int r16), .val (.int r18), .val (.int r20), .val (.int v24), .val (.int v25), .val (.int v26), .val (.int v27), .val (.ref b28), .val (.ref b29), .val (.ref b30), .val (.int (Int32.ofNat na)), .val (.int (Int32.ofNat nb)), .val (.int ((Int32.ofNat ne) + (1 : Int32))), .unset, .unset, .unset]) rfl ?_
                  exact cont
                simp only [own_one]
                have f62 := (f52_0.other W61 ne_b28_b30)
                have f63 := (f52_1.other W61 ne_b29_b30)
                exact KE4 _ _ _ na nb (ne + 1) _ _ _ (own_wide X61 (by decide) (by decide)) e61 N61 kk61 f62 f63 A61 la lb (by rw [List.length_set]; exact le) (by omega) (by omega) (by omega) (by omega) (by rw [ha, own_pa_n hc53, List.append_nil]) (by rw [hpb, own_pb_n hc53 hc59, List.append_nil]) (by rw [own_take_set (by omega), he, own_pe_y (c := v27) (v := r16) hc60])
            ·
              refine own_go (B := T52.setTop (mkF m 341 #[.val (.int p1), .val (.int p2), .val (.int p3), .val (.int p4), .val (.int p5), .val (.int r2), .val (.int r4), .val (.int r6), .val (.int r8), .val (.int r10), .val (.int r12), .val (.int r14), .val (.int r16), .val (.int r18), .val (.int r20), .val (.int v24), .val (.int v25), .val (.int v26), .val (.int v27), .val (.ref b28), .val (.ref b29), .val (.ref b30), .val (.int (Int32.ofNat na)), .val (.int (Int32.ofNat nb)), .val (.int (Int32.ofNat ne)), .unset, .unset, .unset] [(.int r16), (.int (Int32.ofNat nb)), (.ref b29)])) (fun tgt cont => ?_) ?_
              · refine XS.icmpNo X52.here hx rfl (hb hby at_332) rfl (XT.ii_lt_f hc59) ?_
                refine XS.aload X52.here hx rfl (hb hby at_335) rfl rfl ?_
                refine XS.iload X52.here hx rfl (hb hby at_337) rfl ?_
                refine XS.iload X52.here hx rfl (hb hby at_339) rfl ?_
                exact cont
              obtain ⟨T64, h64, X64, e64, W64, A64, st64⟩ := own_stIAn X52 hx hZ e52 f52_1 (i := nb) (x := r16) (by omega) (g := (mkF m 341 #[.val (.int p1), .val (.int p2), .val (.int p3), .val (.int p4), .val (.int p5), .val (.int r2), .val (.int r4), .val (.int r6), .val (.int r8), .val (.int r10), .val (.int r12), .val (.int r14), .val (.int r16), .val (.int r18), .val (.int r20), .val (.int v24), .val (.int v25), .val (.int v26), .val (.int v27), .val (.ref b28), .val (.ref b29), .val (.ref b30), .val (.int (Int32.ofNat na)), .val (.int (Int32.ofNat nb)), .val (.int (Int32.ofNat ne)), .unset, .unset, .unset] [(.int r16), (.int (Int32.ofNat nb)), (.ref b29)])) rfl rfl (hb hby at_341)
              have N64 := Fr.snoc X64 N52 g_b29
              have kk64 : Keep h0 h64 [] := kk52.wr W64 (Or.inr sz_b29)
              have zp64 : n0 ≤ h64.size := Nat.le_trans Z0 kk64.1
              refine own_go (fun tgt cont => st64 tgt cont) ?_
              show own_Go p e below s (Q0 n0) room_1.cells room_1.slots (T64.setTop (mkF m 342 #[.val (.int p1), .val (.int p2), .val (.int p3), .val (.int p4), .val (.int p5), .val (.int r2), .val (.int r4), .val (.int r6), .val (.int r8), .val (.int r10), .val (.int r12), .val (.int r14), .val (.int r16), .val (.int r18), .val (.int r20), .val (.int v24), .val (.int v25), .val (.int v26), .val (.int v27), .val (.ref b28), .val (.ref b29), .val (.ref b30), .val (.int (Int32.ofNat na)), .val (.int (Int32.ofNat nb)), .val (.int (Int32.ofNat ne)), .unset, .unset, .unset] []))
              refine own_go (B := T64.setTop (mkF m 347 #[.val (.int p1), .val (.int p2), .val (.int p3), .val (.int p4), .val (.int p5), .val (.int r2), .val (.int r4), .val (.int r6), .val (.int r8), .val (.int r10), .val (.int r12), .val (.int r14), .val (.int r16), .val (.int r18), .val (.int r20), .val (.int v24), .val (.int v25), .val (.int v26), .val (.int v27), .val (.ref b28), .val (.ref b29), .val (.ref b30), .val (.int (Int32.ofNat na)), .val (.int ((Int32.ofNat nb) + (1 : Int32))), .val (.int (Int32.ofNat ne)), .unset, .unset, .unset] [(.int v27)])) (fun tgt cont => ?_) ?_
              · refine XT.iincV X64.here hx rfl (1 : Int32) (hb hby at_342) rfl rfl (l' := #[.val (.int p1), .val (.int p2), .val (.int p3), .val (.int p4), .val (.int p5), .val (.int r2), .val (.int r4), .val (.int r6), .val (.int r8), .val (.int r10), .val (.int r12), .val (.int r14), .val (.int r16), .val (.int r18), .val (.int r20), .val (.int v24), .val (.int v25), .val (.int v26), .val (.int v27), .val (.ref b28), .val (.ref b29), .val (.ref b30), .val (.int (Int32.ofNat na)), .val (.int ((Int32.ofNat nb) + (1 : Int32))), .val (.int (Int32.ofNat ne)), .unset, .unset, .unset]) rfl ?_
                refine XS.iload X64.here hx rfl (hb hby at_345) rfl ?_
                exact cont
              by_cases hc65 : v27 = 0
              ·
                refine own_go (B := T64.setTop (mkF m 360 #[.val (.int p1), .val (.int p2), .val (.int p3), .val (.int p4), .val (.int p5), .val (.int r2), .val (.int r4), .val (.int r6), .val (.int r8), .val (.int r10), .val (.int r12), .val (.int r14), .val (.int r16), .val (.int r18), .val (.int r20), .val (.int v24), .val (.int v25), .val (.int v26), .val (.int v27), .val (.ref b28), .val (.ref b29), .val (.ref b30), .val (.int (Int32.ofNat na)), .val (.int ((Int32.ofNat nb) + (1 : Int32))), .val (.int (Int32.ofNat ne)), .unset, .unset, .unset] [])) (fun tgt cont => ?_) ?_
                · refine XS.ifYes X64.here hx rfl (pc0 := 347) (pc' := 360) rfl (hb hby at_347) rfl (XT.i0_eq_t hc65) (by decide) (by decide) ?_
                  exact cont
                simp only [own_one]
                have f66 := (f52_0.other W64 ne_b28_b29)
                have f67 := (f52_2.other W64 (Ne.symm ne_b29_b30))
                exact KE4 _ _ _ na (nb + 1) ne _ _ _ (own_wide X64 (by decide) (by decide)) e64 N64 kk64 f66 A64 f67 la (by rw [List.length_set]; exact lb) le (by omega) (by omega) (by omega) (by omega) (by rw [ha, own_pa_n hc53, List.append_nil]) (by rw [own_take_set (by omega), hpb, own_pb_y hc53 hc59]) (by rw [he, own_pe_n (c := v27) (v := r16) hc65, List.append_nil])
              ·
                refine own_go (B := T64.setTop (mkF m 356 #[.val (.int p1), .val (.int p2), .val (.int p3), .val (.int p4), .val (.int p5), .val (.int r2), .val (.int r4), .val (.int r6), .val (.int r8), .val (.int r10), .val (.int r12), .val (.int r14), .val (.int r16), .val (.int r18), .val (.int r20), .val (.int v24), .val (.int v25), .val (.int v26), .val (.int v27), .val (.ref b28), .val (.ref b29), .val (.ref b30), .val (.int (Int32.ofNat na)), .val (.int ((Int32.ofNat nb) + (1 : Int32))), .val (.int (Int32.ofNat ne)), .unset, .unset, .unset] [(.int r16), (.int (Int32.ofNat ne)), (.ref b30)])) (fun tgt cont => ?_) ?_
                · refine XS.ifNo X64.here hx rfl (hb hby at_347) rfl (XT.i0_eq_f hc65) ?_
                  refine XS.aload X64.here hx rfl (hb hby at_350) rfl rfl ?_
                  refine XS.iload X64.here hx rfl (hb hby at_352) rfl ?_
                  refine XS.iload X64.here hx rfl (hb hby at_354) rfl ?_
                  exact cont
                have f68 := (f52_2.other W64 (Ne.symm ne_b29_b30))
                obtain ⟨T69, h69, X69, e69, W69, A69, st69⟩ := own_stIAn X64 hx hZ e64 f68 (i := ne) (x := r16) (by omega) (g := (mkF m 356 #[.val (.int p1), .val (.int p2), .val (.int p3), .val (.int p4), .val (.int p5), .val (.int r2), .val (.int r4), .val (.int r6), .val (.int r8), .val (.int r10), .val (.int r12), .val (.int r14), .val (.int r16), .val (.int r18), .val (.int r20), .val (.int v24), .val (.int v25), .val (.int v26), .val (.int v27), .val (.ref b28), .val (.ref b29), .val (.ref b30), .val (.int (Int32.ofNat na)), .val (.int ((Int32.ofNat nb) + (1 : Int32))), .val (.int (Int32.ofNat ne)), .unset, .unset, .unset] [(.int r16), (.int (Int32.ofNat ne)), (.ref b30)])) rfl rfl (hb hby at_356)
                have N69 := Fr.snoc X69 N64 g_b30
                have kk69 : Keep h0 h69 [] := kk64.wr W69 (Or.inr sz_b30)
                have zp69 : n0 ≤ h69.size := Nat.le_trans Z0 kk69.1
                refine own_go (fun tgt cont => st69 tgt cont) ?_
                show own_Go p e below s (Q0 n0) room_1.cells room_1.slots (T69.setTop (mkF m 357 #[.val (.int p1), .val (.int p2), .val (.int p3), .val (.int p4), .val (.int p5), .val (.int r2), .val (.int r4), .val (.int r6), .val (.int r8), .val (.int r10), .val (.int r12), .val (.int r14), .val (.int r16), .val (.int r18), .val (.int r20), .val (.int v24), .val (.int v25), .val (.int v26), .val (.int v27), .val (.ref b28), .val (.ref b29), .val (.ref b30), .val (.int (Int32.ofNat na)), .val (.int ((Int32.ofNat nb) + (1 : Int32))), .val (.int (Int32.ofNat ne)), .unset, .unset, .unset] []))
                refine own_go (B := T69.setTop (mkF m 360 #[.val (.int p1), .val (.int p2), .val (.int p3), .val (.int p4), .val (.int p5), .val (.int r2), .val (.int r4), .val (.int r6), .val (.int r8), .val (.int r10), .val (.int r12), .val (.int r14), .val (.int r16), .val (.int r18), .val (.int r20), .val (.int v24), .val (.int v25), .val (.int v26), .val (.int v27), .val (.ref b28), .val (.ref b29), .val (.ref b30), .val (.int (Int32.ofNat na)), .val (.int ((Int32.ofNat nb) + (1 : Int32))), .val (.int ((Int32.ofNat ne) + (1 : Int32))), .unset, .unset, .unset] [])) (fun tgt cont => ?_) ?_
                · refine XT.iincV X69.here hx rfl (1 : Int32) (hb hby at_357) rfl rfl (l' := #[.val (.int p1), .val (.int p2), .val (.int p3), .val (.int p4), .val (.int p5), .val (.int r2), .val (.int r4), .val (.int r6), .val (.int r8), .val (.int r10), .val (.int r12), .val (.int r14), .val (.int r16), .val (.int r18), .val (.int r20), .val (.int v24), .val (.int v25), .val (.int v26), .val (.int v27), .val (.ref b28), .val (.ref b29), .val (.ref b30), .val (.int (Int32.ofNat na)), .val (.int ((Int32.ofNat nb) + (1 : Int32))), .val (.int ((Int32.ofNat ne) + (1 : Int32))), .unset, .unset, .unset]) rfl ?_
                  exact cont
                simp only [own_one]
                have f70 := ((f52_0.other W64 ne_b28_b29).other W69 ne_b28_b30)
                have f71 := (A64.other W69 ne_b29_b30)
                exact KE4 _ _ _ na (nb + 1) (ne + 1) _ _ _ (own_wide X69 (by decide) (by decide)) e69 N69 kk69 f70 f71 A69 la (by rw [List.length_set]; exact lb) (by rw [List.length_set]; exact le) (by omega) (by omega) (by omega) (by omega) (by rw [ha, own_pa_n hc53, List.append_nil]) (by rw [own_take_set (by omega), hpb, own_pb_y hc53 hc59]) (by rw [own_take_set (by omega), he, own_pe_y (c := v27) (v := r16) hc65])
        have KE2 : ∀ (T72 : State) (L72 : List Loc) (h72 : Heap) (na nb ne : Nat) (qa qb qe : List Int32) (X72 : Stand p l e room_1 s m #[(.int p1), (.int p2), (.int p3), (.int p4), (.int p5)] below meth c T72 L72 3 12) (e72 : T72.heap = h72) (N72 : Fr n0 L72) (kk72 : Keep h0 h72 []) (f72_0 : own_IA Z h72 b28 qa) (f72_1 : own_IA Z h72 b29 qb) (f72_2 : own_IA Z h72 b30 qe) (la : qa.length = 4) (lb : qb.length = 4) (le : qe.length = 4) (na2 : na ≤ 2) (nb2 : nb ≤ 2) (ne2 : ne ≤ 2) (nab : na + nb ≤ 2) (ha : qa.take na = own_pa v24 r10 ++ own_pa v25 r18) (hpb : qb.take nb = own_pb v24 r10 ++ own_pb v25 r18) (he : qe.take ne = own_pe v24 r10 ++ own_pe v25 r18), own_Go p e below s (Q0 n0) room_1.cells room_1.slots (T72.setTop (mkF m 260 #[.val (.int p1), .val (.int p2), .val (.int p3), .val (.int p4), .val (.int p5), .val (.int r2), .val (.int r4), .val (.int r6), .val (.int r8), .val (.int r10), .val (.int r12), .val (.int r14), .val (.int r16), .val (.int r18), .val (.int r20), .val (.int v24), .val (.int v25), .val (.int v26), .val (.int v27), .val (.ref b28), .val (.ref b29), .val (.ref b30), .val (.int (Int32.ofNat na)), .val (.int (Int32.ofNat nb)), .val (.int (Int32.ofNat ne)), .unset, .unset, .unset] [])) := by
          intro T72 L72 h72 na nb ne qa qb qe X72 e72 N72 kk72 f72_0 f72_1 f72_2 la lb le na2 nb2 ne2 nab ha hpb he
          have zp72 : n0 ≤ h72.size := Nat.le_trans Z0 kk72.1
          refine own_go (B := T72.setTop (mkF m 263 #[.val (.int p1), .val (.int p2), .val (.int p3), .val (.int p4), .val (.int p5), .val (.int r2), .val (.int r4), .val (.int r6), .val (.int r8), .val (.int r10), .val (.int r12), .val (.int r14), .val (.int r16), .val (.int r18), .val (.int r20), .val (.int v24), .val (.int v25), .val (.int v26), .val (.int v27), .val (.ref b28), .val (.ref b29), .val (.ref b30), .val (.int (Int32.ofNat na)), .val (.int (Int32.ofNat nb)), .val (.int (Int32.ofNat ne)), .unset, .unset, .unset] [(.int (1 : Int32)), (.int v26)])) (fun tgt cont => ?_) ?_
          · refine XS.iload X72.here hx rfl (hb hby at_260) rfl ?_
            refine XT.iconstV X72.here hx rfl (1 : Int32) (hb hby at_262) rfl ?_
            exact cont
          by_cases hc73 : v26 = (1 : Int32)
          ·
            refine own_go (B := T72.setTop (mkF m 272 #[.val (.int p1), .val (.int p2), .val (.int p3), .val (.int p4), .val (.int p5), .val (.int r2), .val (.int r4), .val (.int r6), .val (.int r8), .val (.int r10), .val (.int r12), .val (.int r14), .val (.int r16), .val (.int r18), .val (.int r20), .val (.int v24), .val (.int v25), .val (.int v26), .val (.int v27), .val (.ref b28), .val (.ref b29), .val (.ref b30), .val (.int (Int32.ofNat na)), .val (.int (Int32.ofNat nb)), .val (.int (Int32.ofNat ne)), .unset, .unset, .unset] [(.int r20), (.int (Int32.ofNat na)), (.ref b28)])) (fun tgt cont => ?_) ?_
            · refine XS.icmpNo X72.here hx rfl (hb hby at_263) rfl (XT.ii_ne_f hc73) ?_
              refine XS.aload X72.here hx rfl (hb hby at_266) rfl rfl ?_
              refine XS.iload X72.here hx rfl (hb hby at_268) rfl ?_
              refine XS.iload X72.here hx rfl (hb hby at_270) rfl ?_
              exact cont
            obtain ⟨T74, h74, X74, e74, W74, A74, st74⟩ := own_stIAn X72 hx hZ e72 f72_0 (i := na) (x := r20) (by omega) (g := (mkF m 272 #[.val (.int p1), .val (.int p2), .val (.int p3), .val (.int p4), .val (.int p5), .val (.int r2), .val (.int r4), .val (.int r6), .val (.int r8), .val (.int r10), .val (.int r12), .val (.int r14), .val (.int r16), .val (.int r18), .val (.int r20), .val (.int v24), .val (.int v25), .val (.int v26), .val (.int v27), .val (.ref b28), .val (.ref b29), .val (.ref b30), .val (.int (Int32.ofNat na)), .val (.int (Int32.ofNat nb)), .val (.int (Int32.ofNat ne)), .unset, .unset, .unset] [(.int r20), (.int (Int32.ofNat na)), (.ref b28)])) rfl rfl (hb hby at_272)
            have N74 := Fr.snoc X74 N72 g_b28
            have kk74 : Keep h0 h74 [] := kk72.wr W74 (Or.inr sz_b28)
            have zp74 : n0 ≤ h74.size := Nat.le_trans Z0 kk74.1
            refine own_go (fun tgt cont => st74 tgt cont) ?_
            show own_Go p e below s (Q0 n0) room_1.cells room_1.slots (T74.setTop (mkF m 273 #[.val (.int p1), .val (.int p2), .val (.int p3), .val (.int p4), .val (.int p5), .val (.int r2), .val (.int r4), .val (.int r6), .val (.int r8), .val (.int r10), .val (.int r12), .val (.int r14), .val (.int r16), .val (.int r18), .val (.int r20), .val (.int v24), .val (.int v25), .val (.int v26), .val (.int v27), .val (.ref b28), .val (.ref b29), .val (.ref b30), .val (.int (Int32.ofNat na)), .val (.int (Int32.ofNat nb)), .val (.int (Int32.ofNat ne)), .unset, .unset, .unset] []))
            refine own_go (B := T74.setTop (mkF m 306 #[.val (.int p1), .val (.int p2), .val (.int p3), .val (.int p4), .val (.int p5), .val (.int r2), .val (.int r4), .val (.int r6), .val (.int r8), .val (.int r10), .val (.int r12), .val (.int r14), .val (.int r16), .val (.int r18), .val (.int r20), .val (.int v24), .val (.int v25), .val (.int v26), .val (.int v27), .val (.ref b28), .val (.ref b29), .val (.ref b30), .val (.int ((Int32.ofNat na) + (1 : Int32))), .val (.int (Int32.ofNat nb)), .val (.int (Int32.ofNat ne)), .unset, .unset, .unset] [(.int r20), (.int (Int32.ofNat ne)), (.ref b30)])) (fun tgt cont => ?_) ?_
            · refine XT.iincV X74.here hx rfl (1 : Int32) (hb hby at_273) rfl rfl (l' := #[.val (.int p1), .val (.int p2), .val (.int p3), .val (.int p4), .val (.int p5), .val (.int r2), .val (.int r4), .val (.int r6), .val (.int r8), .val (.int r10), .val (.int r12), .val (.int r14), .val (.int r16), .val (.int r18), .val (.int r20), .val (.int v24), .val (.int v25), .val (.int v26), .val (.int v27), .val (.ref b28), .val (.ref b29), .val (.ref b30), .val (.int ((Int32.ofNat na) + (1 : Int32))), .val (.int (Int32.ofNat nb)), .val (.int (Int32.ofNat ne)), .unset, .unset, .unset]) rfl ?_
              refine XS.goto X74.here hx rfl (pc0 := 276) (pc' := 295) rfl (hb hby at_276) (by decide) (by decide) ?_
              refine XS.iload X74.here hx rfl (hb hby at_295) rfl ?_
              refine XS.ifNo X74.here hx rfl (hb hby at_297) rfl (XT.i0_eq_f (by rw [hc73]; decide)) ?_
              refine XS.aload X74.here hx rfl (hb hby at_300) rfl rfl ?_
              refine XS.iload X74.here hx rfl (hb hby at_302) rfl ?_
              refine XS.iload X74.here hx rfl (hb hby at_304) rfl ?_
              exact cont
            have f75 := (f72_2.other W74 (Ne.symm ne_b28_b30))
            obtain ⟨T76, h76, X76, e76, W76, A76, st76⟩ := own_stIAn X74 hx hZ e74 f75 (i := ne) (x := r20) (by omega) (g := (mkF m 306 #[.val (.int p1), .val (.int p2), .val (.int p3), .val (.int p4), .val (.int p5), .val (.int r2), .val (.int r4), .val (.int r6), .val (.int r8), .val (.int r10), .val (.int r12), .val (.int r14), .val (.int r16), .val (.int r18), .val (.int r20), .val (.int v24), .val (.int v25), .val (.int v26), .val (.int v27), .val (.ref b28), .val (.ref b29), .val (.ref b30), .val (.int ((Int32.ofNat na) + (1 : Int32))), .val (.int (Int32.ofNat nb)), .val (.int (Int32.ofNat ne)), .unset, .unset, .unset] [(.int r20), (.int (Int32.ofNat ne)), (.ref b30)])) rfl rfl (hb hby at_306)
            have N76 := Fr.snoc X76 N74 g_b30
            have kk76 : Keep h0 h76 [] := kk74.wr W76 (Or.inr sz_b30)
            have zp76 : n0 ≤ h76.size := Nat.le_trans Z0 kk76.1
            refine own_go (fun tgt cont => st76 tgt cont) ?_
            show own_Go p e below s (Q0 n0) room_1.cells room_1.slots (T76.setTop (mkF m 307 #[.val (.int p1), .val (.int p2), .val (.int p3), .val (.int p4), .val (.int p5), .val (.int r2), .val (.int r4), .val (.int r6), .val (.int r8), .val (.int r10), .val (.int r12), .val (.int r14), .val (.int r16), .val (.int r18), .val (.int r20), .val (.int v24), .val (.int v25), .val (.int v26), .val (.int v27), .val (.ref b28), .val (.ref b29), .val (.ref b30), .val (.int ((Int32.ofNat na) + (1 : Int32))), .val (.int (Int32.ofNat nb)), .val (.int (Int32.ofNat ne)), .unset, .unset, .unset] []))
            refine own_go (B := T76.setTop (mkF m 310 #[.val (.int p1), .val (.int p2), .val (.int p3), .val (.int p4), .val (.int p5), .val (.int r2), .val (.int r4), .val (.int r6), .val (.int r8), .val (.int r10), .val (.int r12), .val (.int r14), .val (.int r16), .val (.int r18), .val (.int r20), .val (.int v24), .val (.int v25), .val (.int v26), .val (.int v27), .val (.ref b28), .val (.ref b29), .val (.ref b30), .val (.int ((Int32.ofNat na) + (1 : Int32))), .val (.int (Int32.ofNat nb)), .val (.int ((Int32.ofNat ne) + (1 : Int32))), .unset, .unset, .unset] [])) (fun tgt cont => ?_) ?_
            · refine XT.iincV X76.here hx rfl (1 : Int32) (hb hby at_307) rfl rfl (l' := #[.val (.int p1), .val (.int p2), .val (.int p3), .val (.int p4), .val (.int p5), .val (.int r2), .val (.int r4), .val (.int r6), .val (.int r8), .val (.int r10), .val (.int r12), .val (.int r14), .val (.int r16), .val (.int r18), .val (.int r20), .val (.int v24), .val (.int v25), .val (.int v26), .val (.int v27), .val (.ref b28), .val (.ref b29), .val (.ref b30), .val (.int ((Int32.ofNat na) + (1 : Int32))), .val (.int (Int32.ofNat nb)), .val (.int ((Int32.ofNat ne) + (1 : Int32))), .unset, .unset, .unset]) rfl ?_
              exact cont
            simp only [own_one]
            have f77 := (A74.other W76 ne_b28_b30)
            have f78 := ((f72_1.other W74 (Ne.symm ne_b28_b29)).other W76 ne_b29_b30)
            exact KE3 _ _ _ (na + 1) nb (ne + 1) _ _ _ (own_wide X76 (by decide) (by decide)) e76 N76 kk76 f77 f78 A76 (by rw [List.length_set]; exact la) lb (by rw [List.length_set]; exact le) (by omega) (by omega) (by omega) (by omega) (by rw [own_take_set (by omega), ha, own_pa_y hc73]) (by rw [hpb, own_pb_a hc73, List.append_nil]) (by rw [own_take_set (by omega), he, own_pe_y (c := v26) (v := r20) (by rw [hc73]; decide)])
          ·
            refine own_go (B := T72.setTop (mkF m 282 #[.val (.int p1), .val (.int p2), .val (.int p3), .val (.int p4), .val (.int p5), .val (.int r2), .val (.int r4), .val (.int r6), .val (.int r8), .val (.int r10), .val (.int r12), .val (.int r14), .val (.int r16), .val (.int r18), .val (.int r20), .val (.int v24), .val (.int v25), .val (.int v26), .val (.int v27), .val (.ref b28), .val (.ref b29), .val (.ref b30), .val (.int (Int32.ofNat na)), .val (.int (Int32.ofNat nb)), .val (.int (Int32.ofNat ne)), .unset, .unset, .unset] [(.int (2 : Int32)), (.int v26)])) (fun tgt cont => ?_) ?_
            · refine XS.icmpYes X72.here hx rfl (pc0 := 263) (pc' := 279) rfl (hb hby at_263) rfl (XT.ii_ne_t hc73) (by decide) (by decide) ?_
              refine XS.iload X72.here hx rfl (hb hby at_279) rfl ?_
              refine XT.iconstV X72.here hx rfl (2 : Int32) (hb hby at_281) rfl ?_
              exact cont
            by_cases hc79 : v26 < (2 : Int32)
            ·
              refine own_go (B := T72.setTop (mkF m 297 #[.val (.int p1), .val (.int p2), .val (.int p3), .val (.int p4), .val (.int p5), .val (.int r2), .val (.int r4), .val (.int r6), .val (.int r8), .val (.int r10), .val (.int r12), .val (.int r14), .val (.int r16), .val (.int r18), .val (.int r20), .val (.int v24), .val (.int v25), .val (.int v26), .val (.int v27), .val (.ref b28), .val (.ref b29), .val (.ref b30), .val (.int (Int32.ofNat na)), .val (.int (Int32.ofNat nb)), .val (.int (Int32.ofNat ne)), .unset, .unset, .unset] [(.int v26)])) (fun tgt cont => ?_) ?_
              · refine XS.icmpYes X72.here hx rfl (pc0 := 282) (pc' := 295) rfl (hb hby at_282) rfl (XT.ii_lt_t hc79) (by decide) (by decide) ?_
                refine XS.iload X72.here hx rfl (hb hby at_295) rfl ?_
                exact cont
              by_cases hc80 : v26 = 0
              ·
                refine own_go (B := T72.setTop (mkF m 310 #[.val (.int p1), .val (.int p2), .val (.int p3), .val (.int p4), .val (.int p5), .val (.int r2), .val (.int r4), .val (.int r6), .val (.int r8), .val (.int r10), .val (.int r12), .val (.int r14), .val (.int r16), .val (.int r18), .val (.int r20), .val (.int v24), .val (.int v25), .val (.int v26), .val (.int v27), .val (.ref b28), .val (.ref b29), .val (.ref b30), .val (.int (Int32.ofNat na)), .val (.int (Int32.ofNat nb)), .val (.int (Int32.ofNat ne)), .unset, .unset, .unset] [])) (fun tgt cont => ?_) ?_
                · refine XS.ifYes X72.here hx rfl (pc0 := 297) (pc' := 310) rfl (hb hby at_297) rfl (XT.i0_eq_t hc80) (by decide) (by decide) ?_
                  exact cont
                exact KE3 _ _ _ na nb ne _ _ _ (own_wide X72 (by decide) (by decide)) e72 N72 kk72 f72_0 f72_1 f72_2 la lb le (by omega) (by omega) (by omega) (by omega) (by rw [ha, own_pa_n hc73, List.append_nil]) (by rw [hpb, own_pb_n hc73 hc79, List.append_nil]) (by rw [he, own_pe_n (c := v26) (v := r20) hc80, List.append_nil])
              ·
                refine own_go (B := T72.setTop (mkF m 306 #[.val (.int p1), .val (.int p2), .val (.int p3), .val (.int p4), .val (.int p5), .val (.int r2), .val (.int r4), .val (.int r6), .val (.int r8), .val (.int r10), .val (.int r12), .val (.int r14), .val (.int r16), .val (.int r18), .val (.int r20), .val (.int v24), .val (.int v25), .val (.int v26), .val (.int v27), .val (.ref b28), .val (.ref b29), .val (.ref b30), .val (.int (Int32.ofNat na)), .val (.int (Int32.ofNat nb)), .val (.int (Int32.ofNat ne)), .unset, .unset, .unset] [(.int r20), (.int (Int32.ofNat ne)), (.ref b30)])) (fun tgt cont => ?_) ?_
                · refine XS.ifNo X72.here hx rfl (hb hby at_297) rfl (XT.i0_eq_f hc80) ?_
                  refine XS.aload X72.here hx rfl (hb hby at_300) rfl rfl ?_
                  refine XS.iload X72.here hx rfl (hb hby at_302) rfl ?_
                  refine XS.iload X72.here hx rfl (hb hby at_304) rfl ?_
                  exact cont
                obtain ⟨T81, h81, X81, e81, W81, A81, st81⟩ := own_stIAn X72 hx hZ e72 f72_2 (i := ne) (x := r20) (by omega) (g := (mkF m 306 #[.val (.int p1), .val (.int p2), .val (.int p3), .val (.int p4), .val (.int p5), .val (.int r2), .val (.int r4), .val (.int r6), .val (.int r8), .val (.int r10), .val (.int r12), .val (.int r14), .val (.int r16), .val (.int r18), .val (.int r20), .val (.int v24), .val (.int v25), .val (.int v26), .val (.int v27), .val (.ref b28), .val (.ref b29), .val (.ref b30), .val (.int (Int32.ofNat na)), .val (.int (Int32.ofNat nb)), .val (.int (Int32.ofNat ne)), .unset, .unset, .unset] [(.int r20), (.int (Int32.ofNat ne)), (.ref b30)])) rfl rfl (hb hby at_306)
                have N81 := Fr.snoc X81 N72 g_b30
                have kk81 : Keep h0 h81 [] := kk72.wr W81 (Or.inr sz_b30)
                have zp81 : n0 ≤ h81.size := Nat.le_trans Z0 kk81.1
                refine own_go (fun tgt cont => st81 tgt cont) ?_
                show own_Go p e below s (Q0 n0) room_1.cells room_1.slots (T81.setTop (mkF m 307 #[.val (.int p1), .val (.int p2), .val (.int p3), .val (.int p4), .val (.int p5), .val (.int r2), .val (.int r4), .val (.int r6), .val (.int r8), .val (.int r10), .val (.int r12), .val (.int r14), .val (.int r16), .val (.int r18), .val (.int r20), .val (.int v24), .val (.int v25), .val (.int v26), .val (.int v27), .val (.ref b28), .val (.ref b29), .val (.ref b30), .val (.int (Int32.ofNat na)), .val (.int (Int32.ofNat nb)), .val (.int (Int32.ofNat ne)), .unset, .unset, .unset] []))
                refine own_go (B := T81.setTop (mkF m 310 #[.val (.int p1), .val (.int p2), .val (.int p3), .val (.int p4), .val (.int p5), .val (.int r2), .val (.int r4), .val (.int r6), .val (.int r8), .val (.int r10), .val (.int r12), .val (.int r14), .val (.int r16), .val (.int r18), .val (.int r20), .val (.int v24), .val (.int v25), .val (.int v26), .val (.int v27), .val (.ref b28), .val (.ref b29), .val (.ref b30), .val (.int (Int32.ofNat na)), .val (.int (Int32.ofNat nb)), .val (.int ((Int32.ofNat ne) + (1 : Int32))), .unset, .unset, .unset] [])) (fun tgt cont => ?_) ?_
                · refine XT.iincV X81.here hx rfl (1 : Int32) (hb hby at_307) rfl rfl (l' := #[.val (.int p1), .val (.int p2), .val (.int p3), .val (.int p4), .val (.int p5), .val (.int r2), .val (.int r4), .val (.int r6), .val (.int r8), .val (.int r10), .val (.int r12), .val (.int r14), .val (.int r16), .val (.int r18), .val (.int r20), .val (.int v24), .val (.int v25), .val (.int v26), .val (.int v27), .val (.ref b28), .val (.ref b29), .val (.ref b30), .val (.int (Int32.ofNat na)), .val (.int (Int32.ofNat nb)), .val (.int ((Int32.ofNat ne) + (1 : Int32))), .unset, .unset, .unset]) rfl ?_
                  exact cont
                simp only [own_one]
                have f82 := (f72_0.other W81 ne_b28_b30)
                have f83 := (f72_1.other W81 ne_b29_b30)
                exact KE3 _ _ _ na nb (ne + 1) _ _ _ (own_wide X81 (by decide) (by decide)) e81 N81 kk81 f82 f83 A81 la lb (by rw [List.length_set]; exact le) (by omega) (by omega) (by omega) (by omega) (by rw [ha, own_pa_n hc73, List.append_nil]) (by rw [hpb, own_pb_n hc73 hc79, List.append_nil]) (by rw [own_take_set (by omega), he, own_pe_y (c := v26) (v := r20) hc80])
            ·
              refine own_go (B := T72.setTop (mkF m 291 #[.val (.int p1), .val (.int p2), .val (.int p3), .val (.int p4), .val (.int p5), .val (.int r2), .val (.int r4), .val (.int r6), .val (.int r8), .val (.int r10), .val (.int r12), .val (.int r14), .val (.int r16), .val (.int r18), .val (.int r20), .val (.int v24), .val (.int v25), .val (.int v26), .val (.int v27), .val (.ref b28), .val (.ref b29), .val (.ref b30), .val (.int (Int32.ofNat na)), .val (.int (Int32.ofNat nb)), .val (.int (Int32.ofNat ne)), .unset, .unset, .unset] [(.int r20), (.int (Int32.ofNat nb)), (.ref b29)])) (fun tgt cont => ?_) ?_
              · refine XS.icmpNo X72.here hx rfl (hb hby at_282) rfl (XT.ii_lt_f hc79) ?_
                refine XS.aload X72.here hx rfl (hb hby at_285) rfl rfl ?_
                refine XS.iload X72.here hx rfl (hb hby at_287) rfl ?_
                refine XS.iload X72.here hx rfl (hb hby at_289) rfl ?_
                exact cont
              obtain ⟨T84, h84, X84, e84, W84, A84, st84⟩ := own_stIAn X72 hx hZ e72 f72_1 (i := nb) (x := r20) (by omega) (g := (mkF m 291 #[.val (.int p1), .val (.int p2), .val (.int p3), .val (.int p4), .val (.int p5), .val (.int r2), .val (.int r4), .val (.int r6), .val (.int r8), .val (.int r10), .val (.int r12), .val (.int r14), .val (.int r16), .val (.int r18), .val (.int r20), .val (.int v24), .val (.int v25), .val (.int v26), .val (.int v27), .val (.ref b28), .val (.ref b29), .val (.ref b30), .val (.int (Int32.ofNat na)), .val (.int (Int32.ofNat nb)), .val (.int (Int32.ofNat ne)), .unset, .unset, .unset] [(.int r20), (.int (Int32.ofNat nb)), (.ref b29)])) rfl rfl (hb hby at_291)
              have N84 := Fr.snoc X84 N72 g_b29
              have kk84 : Keep h0 h84 [] := kk72.wr W84 (Or.inr sz_b29)
              have zp84 : n0 ≤ h84.size := Nat.le_trans Z0 kk84.1
              refine own_go (fun tgt cont => st84 tgt cont) ?_
              show own_Go p e below s (Q0 n0) room_1.cells room_1.slots (T84.setTop (mkF m 292 #[.val (.int p1), .val (.int p2), .val (.int p3), .val (.int p4), .val (.int p5), .val (.int r2), .val (.int r4), .val (.int r6), .val (.int r8), .val (.int r10), .val (.int r12), .val (.int r14), .val (.int r16), .val (.int r18), .val (.int r20), .val (.int v24), .val (.int v25), .val (.int v26), .val (.int v27), .val (.ref b28), .val (.ref b29), .val (.ref b30), .val (.int (Int32.ofNat na)), .val (.int (Int32.ofNat nb)), .val (.int (Int32.ofNat ne)), .unset, .unset, .unset] []))
              refine own_go (B := T84.setTop (mkF m 297 #[.val (.int p1), .val (.int p2), .val (.int p3), .val (.int p4), .val (.int p5), .val (.int r2), .val (.int r4), .val (.int r6), .val (.int r8), .val (.int r10), .val (.int r12), .val (.int r14), .val (.int r16), .val (.int r18), .val (.int r20), .val (.int v24), .val (.int v25), .val (.int v26), .val (.int v27), .val (.ref b28), .val (.ref b29), .val (.ref b30), .val (.int (Int32.ofNat na)), .val (.int ((Int32.ofNat nb) + (1 : Int32))), .val (.int (Int32.ofNat ne)), .unset, .unset, .unset] [(.int v26)])) (fun tgt cont => ?_) ?_
              · refine XT.iincV X84.here hx rfl (1 : Int32) (hb hby at_292) rfl rfl (l' := #[.val (.int p1), .val (.int p2), .val (.int p3), .val (.int p4), .val (.int p5), .val (.int r2), .val (.int r4), .val (.int r6), .val (.int r8), .val (.int r10), .val (.int r12), .val (.int r14), .val (.int r16), .val (.int r18), .val (.int r20), .val (.int v24), .val (.int v25), .val (.int v26), .val (.int v27), .val (.ref b28), .val (.ref b29), .val (.ref b30), .val (.int (Int32.ofNat na)), .val (.int ((Int32.ofNat nb) + (1 : Int32))), .val (.int (Int32.ofNat ne)), .unset, .unset, .unset]) rfl ?_
                refine XS.iload X84.here hx rfl (hb hby at_295) rfl ?_
                exact cont
              by_cases hc85 : v26 = 0
              ·
                refine own_go (B := T84.setTop (mkF m 310 #[.val (.int p1), .val (.int p2), .val (.int p3), .val (.int p4), .val (.int p5), .val (.int r2), .val (.int r4), .val (.int r6), .val (.int r8), .val (.int r10), .val (.int r12), .val (.int r14), .val (.int r16), .val (.int r18), .val (.int r20), .val (.int v24), .val (.int v25), .val (.int v26), .val (.int v27), .val (.ref b28), .val (.ref b29), .val (.ref b30), .val (.int (Int32.ofNat na)), .val (.int ((Int32.ofNat nb) + (1 : Int32))), .val (.int (Int32.ofNat ne)), .unset, .unset, .unset] [])) (fun tgt cont => ?_) ?_
                · refine XS.ifYes X84.here hx rfl (pc0 := 297) (pc' := 310) rfl (hb hby at_297) rfl (XT.i0_eq_t hc85) (by decide) (by decide) ?_
                  exact cont
                simp only [own_one]
                have f86 := (f72_0.other W84 ne_b28_b29)
                have f87 := (f72_2.other W84 (Ne.symm ne_b29_b30))
                exact KE3 _ _ _ na (nb + 1) ne _ _ _ (own_wide X84 (by decide) (by decide)) e84 N84 kk84 f86 A84 f87 la (by rw [List.length_set]; exact lb) le (by omega) (by omega) (by omega) (by omega) (by rw [ha, own_pa_n hc73, List.append_nil]) (by rw [own_take_set (by omega), hpb, own_pb_y hc73 hc79]) (by rw [he, own_pe_n (c := v26) (v := r20) hc85, List.append_nil])
              ·
                refine own_go (B := T84.setTop (mkF m 306 #[.val (.int p1), .val (.int p2), .val (.int p3), .val (.int p4), .val (.int p5), .val (.int r2), .val (.int r4), .val (.int r6), .val (.int r8), .val (.int r10), .val (.int r12), .val (.int r14), .val (.int r16), .val (.int r18), .val (.int r20), .val (.int v24), .val (.int v25), .val (.int v26), .val (.int v27), .val (.ref b28), .val (.ref b29), .val (.ref b30), .val (.int (Int32.ofNat na)), .val (.int ((Int32.ofNat nb) + (1 : Int32))), .val (.int (Int32.ofNat ne)), .unset, .unset, .unset] [(.int r20), (.int (Int32.ofNat ne)), (.ref b30)])) (fun tgt cont => ?_) ?_
                · refine XS.ifNo X84.here hx rfl (hb hby at_297) rfl (XT.i0_eq_f hc85) ?_
                  refine XS.aload X84.here hx rfl (hb hby at_300) rfl rfl ?_
                  refine XS.iload X84.here hx rfl (hb hby at_302) rfl ?_
                  refine XS.iload X84.here hx rfl (hb hby at_304) rfl ?_
                  exact cont
                have f88 := (f72_2.other W84 (Ne.symm ne_b29_b30))
                obtain ⟨T89, h89, X89, e89, W89, A89, st89⟩ := own_stIAn X84 hx hZ e84 f88 (i := ne) (x := r20) (by omega) (g := (mkF m 306 #[.val (.int p1), .val (.int p2), .val (.int p3), .val (.int p4), .val (.int p5), .val (.int r2), .val (.int r4), .val (.int r6), .val (.int r8), .val (.int r10), .val (.int r12), .val (.int r14), .val (.int r16), .val (.int r18), .val (.int r20), .val (.int v24), .val (.int v25), .val (.int v26), .val (.int v27), .val (.ref b28), .val (.ref b29), .val (.ref b30), .val (.int (Int32.ofNat na)), .val (.int ((Int32.ofNat nb) + (1 : Int32))), .val (.int (Int32.ofNat ne)), .unset, .unset, .unset] [(.int r20), (.int (Int32.ofNat ne)), (.ref b30)])) rfl rfl (hb hby at_306)
                have N89 := Fr.snoc X89 N84 g_b30
                have kk89 : Keep h0 h89 [] := kk84.wr W89 (Or.inr sz_b30)
                have zp89 : n0 ≤ h89.size := Nat.le_trans Z0 kk89.1
                refine own_go (fun tgt cont => st89 tgt cont) ?_
                show own_Go p e below s (Q0 n0) room_1.cells room_1.slots (T89.setTop (mkF m 307 #[.val (.int p1), .val (.int p2), .val (.int p3), .val (.int p4), .val (.int p5), .val (.int r2), .val (.int r4), .val (.int r6), .val (.int r8), .val (.int r10), .val (.int r12), .val (.int r14), .val (.int r16), .val (.int r18), .val (.int r20), .val (.int v24), .val (.int v25), .val (.int v26), .val (.int v27), .val (.ref b28), .val (.ref b29), .val (.ref b30), .val (.int (Int32.ofNat na)), .val (.int ((Int32.ofNat nb) + (1 : Int32))), .val (.int (Int32.ofNat ne)), .unset, .unset, .unset] []))
                refine own_go (B := T89.setTop (mkF m 310 #[.val (.int p1), .val (.int p2), .val (.int p3), .val (.int p4), .val (.int p5), .val (.int r2), .val (.int r4), .val (.int r6), .val (.int r8), .val (.int r10), .val (.int r12), .val (.int r14), .val (.int r16), .val (.int r18), .val (.int r20), .val (.int v24), .val (.int v25), .val (.int v26), .val (.int v27), .val (.ref b28), .val (.ref b29), .val (.ref b30), .val (.int (Int32.ofNat na)), .val (.int ((Int32.ofNat nb) + (1 : Int32))), .val (.int ((Int32.ofNat ne) + (1 : Int32))), .unset, .unset, .unset] [])) (fun tgt cont => ?_) ?_
                · refine XT.iincV X89.here hx rfl (1 : Int32) (hb hby at_307) rfl rfl (l' := #[.val (.int p1), .val (.int p2), .val (.int p3), .val (.int p4), .val (.int p5), .val (.int r2), .val (.int r4), .val (.int r6), .val (.int r8), .val (.int r10), .val (.int r12), .val (.int r14), .val (.int r16), .val (.int r18), .val (.int r20), .val (.int v24), .val (.int v25), .val (.int v26), .val (.int v27), .val (.ref b28), .val (.ref b29), .val (.ref b30), .val (.int (Int32.ofNat na)), .val (.int ((Int32.ofNat nb) + (1 : Int32))), .val (.int ((Int32.ofNat ne) + (1 : Int32))), .unset, .unset, .unset]) rfl ?_
                  exact cont
                simp only [own_one]
                have f90 := ((f72_0.other W84 ne_b28_b29).other W89 ne_b28_b30)
                have f91 := (A84.other W89 ne_b29_b30)
                exact KE3 _ _ _ na (nb + 1) (ne + 1) _ _ _ (own_wide X89 (by decide) (by decide)) e89 N89 kk89 f90 f91 A89 la (by rw [List.length_set]; exact lb) (by rw [List.length_set]; exact le) (by omega) (by omega) (by omega) (by omega) (by rw [ha, own_pa_n hc73, List.append_nil]) (by rw [own_take_set (by omega), hpb, own_pb_y hc73 hc79]) (by rw [own_take_set (by omega), he, own_pe_y (c := v26) (v := r20) hc85])
        have KE1 : ∀ (T92 : State) (L92 : List Loc) (h92 : Heap) (na nb ne : Nat) (qa qb qe : List Int32) (X92 : Stand p l e room_1 s m #[(.int p1), (.int p2), (.int p3), (.int p4), (.int p5)] below meth c T92 L92 3 12) (e92 : T92.heap = h92) (N92 : Fr n0 L92) (kk92 : Keep h0 h92 []) (f92_0 : own_IA Z h92 b28 qa) (f92_1 : own_IA Z h92 b29 qb) (f92_2 : own_IA Z h92 b30 qe) (la : qa.length = 4) (lb : qb.length = 4) (le : qe.length = 4) (na1 : na ≤ 1) (nb1 : nb ≤ 1) (ne1 : ne ≤ 1) (nab : na + nb ≤ 1) (ha : qa.take na = own_pa v24 r10) (hpb : qb.take nb = own_pb v24 r10) (he : qe.take ne = own_pe v24 r10), own_Go p e below s (Q0 n0) room_1.cells room_1.slots (T92.setTop (mkF m 210 #[.val (.int p1), .val (.int p2), .val (.int p3), .val (.int p4), .val (.int p5), .val (.int r2), .val (.int r4), .val (.int r6), .val (.int r8), .val (.int r10), .val (.int r12), .val (.int r14), .val (.int r16), .val (.int r18), .val (.int r20), .val (.int v24), .val (.int v25), .val (.int v26), .val (.int v27), .val (.ref b28), .val (.ref b29), .val (.ref b30), .val (.int (Int32.ofNat na)), .val (.int (Int32.ofNat nb)), .val (.int (Int32.ofNat ne)), .unset, .unset, .unset] [])) := by
          intro T92 L92 h92 na nb ne qa qb qe X92 e92 N92 kk92 f92_0 f92_1 f92_2 la lb le na1 nb1 ne1 nab ha hpb he
          have zp92 : n0 ≤ h92.size := Nat.le_trans Z0 kk92.1
          refine own_go (B := T92.setTop (mkF m 213 #[.val (.int p1), .val (.int p2), .val (.int p3), .val (.int p4), .val (.int p5), .val (.int r2), .val (.int r4), .val (.int r6), .val (.int r8), .val (.int r10), .val (.int r12), .val (.int r14), .val (.int r16), .val (.int r18), .val (.int r20), .val (.int v24), .val (.int v25), .val (.int v26), .val (.int v27), .val (.ref b28), .val (.ref b29), .val (.ref b30), .val (.int (Int32.ofNat na)), .val (.int (Int32.ofNat nb)), .val (.int (Int32.ofNat ne)), .unset, .unset, .unset] [(.int (1 : Int32)), (.int v25)])) (fun tgt cont => ?_) ?_
          · refine XS.iload X92.here hx rfl (hb hby at_210) rfl ?_
            refine XT.iconstV X92.here hx rfl (1 : Int32) (hb hby at_212) rfl ?_
            exact cont
          by_cases hc93 : v25 = (1 : Int32)
          ·
            refine own_go (B := T92.setTop (mkF m 222 #[.val (.int p1), .val (.int p2), .val (.int p3), .val (.int p4), .val (.int p5), .val (.int r2), .val (.int r4), .val (.int r6), .val (.int r8), .val (.int r10), .val (.int r12), .val (.int r14), .val (.int r16), .val (.int r18), .val (.int r20), .val (.int v24), .val (.int v25), .val (.int v26), .val (.int v27), .val (.ref b28), .val (.ref b29), .val (.ref b30), .val (.int (Int32.ofNat na)), .val (.int (Int32.ofNat nb)), .val (.int (Int32.ofNat ne)), .unset, .unset, .unset] [(.int r18), (.int (Int32.ofNat na)), (.ref b28)])) (fun tgt cont => ?_) ?_
            · refine XS.icmpNo X92.here hx rfl (hb hby at_213) rfl (XT.ii_ne_f hc93) ?_
              refine XS.aload X92.here hx rfl (hb hby at_216) rfl rfl ?_
              refine XS.iload X92.here hx rfl (hb hby at_218) rfl ?_
              refine XS.iload X92.here hx rfl (hb hby at_220) rfl ?_
              exact cont
            obtain ⟨T94, h94, X94, e94, W94, A94, st94⟩ := own_stIAn X92 hx hZ e92 f92_0 (i := na) (x := r18) (by omega) (g := (mkF m 222 #[.val (.int p1), .val (.int p2), .val (.int p3), .val (.int p4), .val (.int p5), .val (.int r2), .val (.int r4), .val (.int r6), .val (.int r8), .val (.int r10), .val (.int r12), .val (.int r14), .val (.int r16), .val (.int r18), .val (.int r20), .val (.int v24), .val (.int v25), .val (.int v26), .val (.int v27), .val (.ref b28), .val (.ref b29), .val (.ref b30), .val (.int (Int32.ofNat na)), .val (.int (Int32.ofNat nb)), .val (.int (Int32.ofNat ne)), .unset, .unset, .unset] [(.int r18), (.int (Int32.ofNat na)), (.ref b28)])) rfl rfl (hb hby at_222)
            have N94 := Fr.snoc X94 N92 g_b28
            have kk94 : Keep h0 h94 [] := kk92.wr W94 (Or.inr sz_b28)
            have zp94 : n0 ≤ h94.size := Nat.le_trans Z0 kk94.1
            refine own_go (fun tgt cont => st94 tgt cont) ?_
            show own_Go p e below s (Q0 n0) room_1.cells room_1.slots (T94.setTop (mkF m 223 #[.val (.int p1), .val (.int p2), .val (.int p3), .val (.int p4), .val (.int p5), .val (.int r2), .val (.int r4), .val (.int r6), .val (.int r8), .val (.int r10), .val (.int r12), .val (.int r14), .val (.int r16), .val (.int r18), .val (.int r20), .val (.int v24), .val (.int v25), .val (.int v26), .val (.int v27), .val (.ref b28), .val (.ref b29), .val (.ref b30), .val (.int (Int32.ofNat na)), .val (.int (Int32.ofNat nb)), .val (.int (Int32.ofNat ne)), .unset, .unset, .unset] []))
            refine own_go (B := T94.setTop (mkF m 256 #[.val (.int p1), .val (.int p2), .val (.int p3), .val (.int p4), .val (.int p5), .val (.int r2), .val (.int r4), .val (.int r6), .val (.int r8), .val (.int r10), .val (.int r12), .val (.int r14), .val (.int r16), .val (.int r18), .val (.int r20), .val (.int v24), .val (.int v25), .val (.int v26), .val (.int v27), .val (.ref b28), .val (.ref b29), .val (.ref b30), .val (.int ((Int32.ofNat na) + (1 : Int32))), .val (.int (Int32.ofNat nb)), .val (.int (Int32.ofNat ne)), .unset, .unset, .unset] [(.int r18), (.int (Int32.ofNat ne)), (.ref b30)])) (fun tgt cont => ?_) ?_
            · refine XT.iincV X94.here hx rfl (1 : Int32) (hb hby at_223) rfl rfl (l' := #[.val (.int p1), .val (.int p2), .val (.int p3), .val (.int p4), .val (.int p5), .val (.int r2), .val (.int r4), .val (.int r6), .val (.int r8), .val (.int r10), .val (.int r12), .val (.int r14), .val (.int r16), .val (.int r18), .val (.int r20), .val (.int v24), .val (.int v25), .val (.int v26), .val (.int v27), .val (.ref b28), .val (.ref b29), .val (.ref b30), .val (.int ((Int32.ofNat na) + (1 : Int32))), .val (.int (Int32.ofNat nb)), .val (.int (Int32.ofNat ne)), .unset, .unset, .unset]) rfl ?_
              refine XS.goto X94.here hx rfl (pc0 := 226) (pc' := 245) rfl (hb hby at_226) (by decide) (by decide) ?_
              refine XS.iload X94.here hx rfl (hb hby at_245) rfl ?_
              refine XS.ifNo X94.here hx rfl (hb hby at_247) rfl (XT.i0_eq_f (by rw [hc93]; decide)) ?_
              refine XS.aload X94.here hx rfl (hb hby at_250) rfl rfl ?_
              refine XS.iload X94.here hx rfl (hb hby at_252) rfl ?_
              refine XS.iload X94.here hx rfl (hb hby at_254) rfl ?_
              exact cont
            have f95 := (f92_2.other W94 (Ne.symm ne_b28_b30))
            obtain ⟨T96, h96, X96, e96, W96, A96, st96⟩ := own_stIAn X94 hx hZ e94 f95 (i := ne) (x := r18) (by omega) (g := (mkF m 256 #[.val (.int p1), .val (.int p2), .val (.int p3), .val (.int p4), .val (.int p5), .val (.int r2), .val (.int r4), .val (.int r6), .val (.int r8), .val (.int r10), .val (.int r12), .val (.int r14), .val (.int r16), .val (.int r18), .val (.int r20), .val (.int v24), .val (.int v25), .val (.int v26), .val (.int v27), .val (.ref b28), .val (.ref b29), .val (.ref b30), .val (.int ((Int32.ofNat na) + (1 : Int32))), .val (.int (Int32.ofNat nb)), .val (.int (Int32.ofNat ne)), .unset, .unset, .unset] [(.int r18), (.int (Int32.ofNat ne)), (.ref b30)])) rfl rfl (hb hby at_256)
            have N96 := Fr.snoc X96 N94 g_b30
            have kk96 : Keep h0 h96 [] := kk94.wr W96 (Or.inr sz_b30)
            have zp96 : n0 ≤ h96.size := Nat.le_trans Z0 kk96.1
            refine own_go (fun tgt cont => st96 tgt cont) ?_
            show own_Go p e below s (Q0 n0) room_1.cells room_1.slots (T96.setTop (mkF m 257 #[.val (.int p1), .val (.int p2), .val (.int p3), .val (.int p4), .val (.int p5), .val (.int r2), .val (.int r4), .val (.int r6), .val (.int r8), .val (.int r10), .val (.int r12), .val (.int r14), .val (.int r16), .val (.int r18), .val (.int r20), .val (.int v24), .val (.int v25), .val (.int v26), .val (.int v27), .val (.ref b28), .val (.ref b29), .val (.ref b30), .val (.int ((Int32.ofNat na) + (1 : Int32))), .val (.int (Int32.ofNat nb)), .val (.int (Int32.ofNat ne)), .unset, .unset, .unset] []))
            refine own_go (B := T96.setTop (mkF m 260 #[.val (.int p1), .val (.int p2), .val (.int p3), .val (.int p4), .val (.int p5), .val (.int r2), .val (.int r4), .val (.int r6), .val (.int r8), .val (.int r10), .val (.int r12), .val (.int r14), .val (.int r16), .val (.int r18), .val (.int r20), .val (.int v24), .val (.int v25), .val (.int v26), .val (.int v27), .val (.ref b28), .val (.ref b29), .val (.ref b30), .val (.int ((Int32.ofNat na) + (1 : Int32))), .val (.int (Int32.ofNat nb)), .val (.int ((Int32.ofNat ne) + (1 : Int32))), .unset, .unset, .unset] [])) (fun tgt cont => ?_) ?_
            · refine XT.iincV X96.here hx rfl (1 : Int32) (hb hby at_257) rfl rfl (l' := #[.val (.int p1), .val (.int p2), .val (.int p3), .val (.int p4), .val (.int p5), .val (.int r2), .val (.int r4), .val (.int r6), .val (.int r8), .val (.int r10), .val (.int r12), .val (.int r14), .val (.int r16), .val (.int r18), .val (.int r20), .val (.int v24), .val (.int v25), .val (.int v26), .val (.int v27), .val (.ref b28), .val (.ref b29), .val (.ref b30), .val (.int ((Int32.ofNat na) + (1 : Int32))), .val (.int (Int32.ofNat nb)), .val (.int ((Int32.ofNat ne) + (1 : Int32))), .unset, .unset, .unset]) rfl ?_
              exact cont
            simp only [own_one]
            have f97 := (A94.other W96 ne_b28_b30)
            have f98 := ((f92_1.other W94 (Ne.symm ne_b28_b29)).other W96 ne_b29_b30)
            exact KE2 _ _ _ (na + 1) nb (ne + 1) _ _ _ (own_wide X96 (by decide) (by decide)) e96 N96 kk96 f97 f98 A96 (by rw [List.length_set]; exact la) lb (by rw [List.length_set]; exact le) (by omega) (by omega) (by omega) (by omega) (by rw [own_take_set (by omega), ha, own_pa_y hc93]) (by rw [hpb, own_pb_a hc93, List.append_nil]) (by rw [own_take_set (by omega), he, own_pe_y (c := v25) (v := r18) (by rw [hc93]; decide)])
          ·
            refine own_go (B := T92.setTop (mkF m 232 #[.val (.int p1), .val (.int p2), .val (.int p3), .val (.int p4), .val (.int p5), .val (.int r2), .val (.int r4), .val (.int r6), .val (.int r8), .val (.int r10), .val (.int r12), .val (.int r14), .val (.int r16), .val (.int r18), .val (.int r20), .val (.int v24), .val (.int v25), .val (.int v26), .val (.int v27), .val (.ref b28), .val (.ref b29), .val (.ref b30), .val (.int (Int32.ofNat na)), .val (.int (Int32.ofNat nb)), .val (.int (Int32.ofNat ne)), .unset, .unset, .unset] [(.int (2 : Int32)), (.int v25)])) (fun tgt cont => ?_) ?_
            · refine XS.icmpYes X92.here hx rfl (pc0 := 213) (pc' := 229) rfl (hb hby at_213) rfl (XT.ii_ne_t hc93) (by decide) (by decide) ?_
              refine XS.iload X92.here hx rfl (hb hby at_229) rfl ?_
              refine XT.iconstV X92.here hx rfl (2 : Int32) (hb hby at_231) rfl ?_
              exact cont
            by_cases hc99 : v25 < (2 : Int32)
            ·
              refine own_go (B := T92.setTop (mkF m 247 #[.val (.int p1), .val (.int p2), .val (.int p3), .val (.int p4), .val (.int p5), .val (.int r2), .val (.int r4), .val (.int r6), .val (.int r8), .val (.int r10), .val (.int r12), .val (.int r14), .val (.int r16), .val (.int r18), .val (.int r20), .val (.int v24), .val (.int v25), .val (.int v26), .val (.int v27), .val (.ref b28), .val (.ref b29), .val (.ref b30), .val (.int (Int32.ofNat na)), .val (.int (Int32.ofNat nb)), .val (.int (Int32.ofNat ne)), .unset, .unset, .unset] [(.int v25)])) (fun tgt cont => ?_) ?_
              · refine XS.icmpYes X92.here hx rfl (pc0 := 232) (pc' := 245) rfl (hb hby at_232) rfl (XT.ii_lt_t hc99) (by decide) (by decide) ?_
                refine XS.iload X92.here hx rfl (hb hby at_245) rfl ?_
                exact cont
              by_cases hc100 : v25 = 0
              ·
                refine own_go (B := T92.setTop (mkF m 260 #[.val (.int p1), .val (.int p2), .val (.int p3), .val (.int p4), .val (.int p5), .val (.int r2), .val (.int r4), .val (.int r6), .val (.int r8), .val (.int r10), .val (.int r12), .val (.int r14), .val (.int r16), .val (.int r18), .val (.int r20), .val (.int v24), .val (.int v25), .val (.int v26), .val (.int v27), .val (.ref b28), .val (.ref b29), .val (.ref b30), .val (.int (Int32.ofNat na)), .val (.int (Int32.ofNat nb)), .val (.int (Int32.ofNat ne)), .unset, .unset, .unset] [])) (fun tgt cont => ?_) ?_
                · refine XS.ifYes X92.here hx rfl (pc0 := 247) (pc' := 260) rfl (hb hby at_247) rfl (XT.i0_eq_t hc100) (by decide) (by decide) ?_
                  exact cont
                exact KE2 _ _ _ na nb ne _ _ _ (own_wide X92 (by decide) (by decide)) e92 N92 kk92 f92_0 f92_1 f92_2 la lb le (by omega) (by omega) (by omega) (by omega) (by rw [ha, own_pa_n hc93, List.append_nil]) (by rw [hpb, own_pb_n hc93 hc99, List.append_nil]) (by rw [he, own_pe_n (c := v25) (v := r18) hc100, List.append_nil])
              ·
                refine own_go (B := T92.setTop (mkF m 256 #[.val (.int p1), .val (.int p2), .val (.int p3), .val (.int p4), .val (.int p5), .val (.int r2), .val (.int r4), .val (.int r6), .val (.int r8), .val (.int r10), .val (.int r12), .val (.int r14), .val (.int r16), .val (.int r18), .val (.int r20), .val (.int v24), .val (.int v25), .val (.int v26), .val (.int v27), .val (.ref b28), .val (.ref b29), .val (.ref b30), .val (.int (Int32.ofNat na)), .val (.int (Int32.ofNat nb)), .val (.int (Int32.ofNat ne)), .unset, .unset, .unset] [(.int r18), (.int (Int32.ofNat ne)), (.ref b30)])) (fun tgt cont => ?_) ?_
                · refine XS.ifNo X92.here hx rfl (hb hby at_247) rfl (XT.i0_eq_f hc100) ?_
                  refine XS.aload X92.here hx rfl (hb hby at_250) rfl rfl ?_
                  refine XS.iload X92.here hx rfl (hb hby at_252) rfl ?_
                  refine XS.iload X92.here hx rfl (hb hby at_254) rfl ?_
                  exact cont
                obtain ⟨T101, h101, X101, e101, W101, A101, st101⟩ := own_stIAn X92 hx hZ e92 f92_2 (i := ne) (x := r18) (by omega) (g := (mkF m 256 #[.val (.int p1), .val (.int p2), .val (.int p3), .val (.int p4), .val (.int p5), .val (.int r2), .val (.int r4), .val (.int r6), .val (.int r8), .val (.int r10), .val (.int r12), .val (.int r14), .val (.int r16), .val (.int r18), .val (.int r20), .val (.int v24), .val (.int v25), .val (.int v26), .val (.int v27), .val (.ref b28), .val (.ref b29), .val (.ref b30), .val (.int (Int32.ofNat na)), .val (.int (Int32.ofNat nb)), .val (.int (Int32.ofNat ne)), .unset, .unset, .unset] [(.int r18), (.int (Int32.ofNat ne)), (.ref b30)])) rfl rfl (hb hby at_256)
                have N101 := Fr.snoc X101 N92 g_b30
                have kk101 : Keep h0 h101 [] := kk92.wr W101 (Or.inr sz_b30)
                have zp101 : n0 ≤ h101.size := Nat.le_trans Z0 kk101.1
                refine own_go (fun tgt cont => st101 tgt cont) ?_
                show own_Go p e below s (Q0 n0) room_1.cells room_1.slots (T101.setTop (mkF m 257 #[.val (.int p1), .val (.int p2), .val (.int p3), .val (.int p4), .val (.int p5), .val (.int r2), .val (.int r4), .val (.int r6), .val (.int r8), .val (.int r10), .val (.int r12), .val (.int r14), .val (.int r16), .val (.int r18), .val (.int r20), .val (.int v24), .val (.int v25), .val (.int v26), .val (.int v27), .val (.ref b28), .val (.ref b29), .val (.ref b30), .val (.int (Int32.ofNat na)), .val (.int (Int32.ofNat nb)), .val (.int (Int32.ofNat ne)), .unset, .unset, .unset] []))
                refine own_go (B := T101.setTop (mkF m 260 #[.val (.int p1), .val (.int p2), .val (.int p3), .val (.int p4), .val (.int p5), .val (.int r2), .val (.int r4), .val (.int r6), .val (.int r8), .val (.int r10), .val (.int r12), .val (.int r14), .val (.int r16), .val (.int r18), .val (.int r20), .val (.int v24), .val (.int v25), .val (.int v26), .val (.int v27), .val (.ref b28), .val (.ref b29), .val (.ref b30), .val (.int (Int32.ofNat na)), .val (.int (Int32.ofNat nb)), .val (.int ((Int32.ofNat ne) + (1 : Int32))), .unset, .unset, .unset] [])) (fun tgt cont => ?_) ?_
                · refine XT.iincV X101.here hx rfl (1 : Int32) (hb hby at_257) rfl rfl (l' := #[.val (.int p1), .val (.int p2), .val (.int p3), .val (.int p4), .val (.int p5), .val (.int r2), .val (.int r4), .val (.int r6), .val (.int r8), .val (.int r10), .val (.int r12), .val (.int r14), .val (.int r16), .val (.int r18), .val (.int r20), .val (.int v24), .val (.int v25), .val (.int v26), .val (.int v27), .val (.ref b28), .val (.ref b29), .val (.ref b30), .val (.int (Int32.ofNat na)), .val (.int (Int32.ofNat nb)), .val (.int ((Int32.ofNat ne) + (1 : Int32))), .unset, .unset, .unset]) rfl ?_
                  exact cont
                simp only [own_one]
                have f102 := (f92_0.other W101 ne_b28_b30)
                have f103 := (f92_1.other W101 ne_b29_b30)
                exact KE2 _ _ _ na nb (ne + 1) _ _ _ (own_wide X101 (by decide) (by decide)) e101 N101 kk101 f102 f103 A101 la lb (by rw [List.length_set]; exact le) (by omega) (by omega) (by omega) (by omega) (by rw [ha, own_pa_n hc93, List.append_nil]) (by rw [hpb, own_pb_n hc93 hc99, List.append_nil]) (by rw [own_take_set (by omega), he, own_pe_y (c := v25) (v := r18) hc100])
            ·
              refine own_go (B := T92.setTop (mkF m 241 #[.val (.int p1), .val (.int p2), .val (.int p3), .val (.int p4), .val (.int p5), .val (.int r2), .val (.int r4), .val (.int r6), .val (.int r8), .val (.int r10), .val (.int r12), .val (.int r14), .val (.int r16), .val (.int r18), .val (.int r20), .val (.int v24), .val (.int v25), .val (.int v26), .val (.int v27), .val (.ref b28), .val (.ref b29), .val (.ref b30), .val (.int (Int32.ofNat na)), .val (.int (Int32.ofNat nb)), .val (.int (Int32.ofNat ne)), .unset, .unset, .unset] [(.int r18), (.int (Int32.ofNat nb)), (.ref b29)])) (fun tgt cont => ?_) ?_
              · refine XS.icmpNo X92.here hx rfl (hb hby at_232) rfl (XT.ii_lt_f hc99) ?_
                refine XS.aload X92.here hx rfl (hb hby at_235) rfl rfl ?_
                refine XS.iload X92.here hx rfl (hb hby at_237) rfl ?_
                refine XS.iload X92.here hx rfl (hb hby at_239) rfl ?_
                exact cont
              obtain ⟨T104, h104, X104, e104, W104, A104, st104⟩ := own_stIAn X92 hx hZ e92 f92_1 (i := nb) (x := r18) (by omega) (g := (mkF m 241 #[.val (.int p1), .val (.int p2), .val (.int p3), .val (.int p4), .val (.int p5), .val (.int r2), .val (.int r4), .val (.int r6), .val (.int r8), .val (.int r10), .val (.int r12), .val (.int r14), .val (.int r16), .val (.int r18), .val (.int r20), .val (.int v24), .val (.int v25), .val (.int v26), .val (.int v27), .val (.ref b28), .val (.ref b29), .val (.ref b30), .val (.int (Int32.ofNat na)), .val (.int (Int32.ofNat nb)), .val (.int (Int32.ofNat ne)), .unset, .unset, .unset] [(.int r18), (.int (Int32.ofNat nb)), (.ref b29)])) rfl rfl (hb hby at_241)
              have N104 := Fr.snoc X104 N92 g_b29
              have kk104 : Keep h0 h104 [] := kk92.wr W104 (Or.inr sz_b29)
              have zp104 : n0 ≤ h104.size := Nat.le_trans Z0 kk104.1
              refine own_go (fun tgt cont => st104 tgt cont) ?_
              show own_Go p e below s (Q0 n0) room_1.cells room_1.slots (T104.setTop (mkF m 242 #[.val (.int p1), .val (.int p2), .val (.int p3), .val (.int p4), .val (.int p5), .val (.int r2), .val (.int r4), .val (.int r6), .val (.int r8), .val (.int r10), .val (.int r12), .val (.int r14), .val (.int r16), .val (.int r18), .val (.int r20), .val (.int v24), .val (.int v25), .val (.int v26), .val (.int v27), .val (.ref b28), .val (.ref b29), .val (.ref b30), .val (.int (Int32.ofNat na)), .val (.int (Int32.ofNat nb)), .val (.int (Int32.ofNat ne)), .unset, .unset, .unset] []))
              refine own_go (B := T104.setTop (mkF m 247 #[.val (.int p1), .val (.int p2), .val (.int p3), .val (.int p4), .val (.int p5), .val (.int r2), .val (.int r4), .val (.int r6), .val (.int r8), .val (.int r10), .val (.int r12), .val (.int r14), .val (.int r16), .val (.int r18), .val (.int r20), .val (.int v24), .val (.int v25), .val (.int v26), .val (.int v27), .val (.ref b28), .val (.ref b29), .val (.ref b30), .val (.int (Int32.ofNat na)), .val (.int ((Int32.ofNat nb) + (1 : Int32))), .val (.int (Int32.ofNat ne)), .unset, .unset, .unset] [(.int v25)])) (fun tgt cont => ?_) ?_
              · refine XT.iincV X104.here hx rfl (1 : Int32) (hb hby at_242) rfl rfl (l' := #[.val (.int p1), .val (.int p2), .val (.int p3), .val (.int p4), .val (.int p5), .val (.int r2), .val (.int r4), .val (.int r6), .val (.int r8), .val (.int r10), .val (.int r12), .val (.int r14), .val (.int r16), .val (.int r18), .val (.int r20), .val (.int v24), .val (.int v25), .val (.int v26), .val (.int v27), .val (.ref b28), .val (.ref b29), .val (.ref b30), .val (.int (Int32.ofNat na)), .val (.int ((Int32.ofNat nb) + (1 : Int32))), .val (.int (Int32.ofNat ne)), .unset, .unset, .unset]) rfl ?_
                refine XS.iload X104.here hx rfl (hb hby at_245) rfl ?_
                exact cont
              by_cases hc105 : v25 = 0
              ·
                refine own_go (B := T104.setTop (mkF m 260 #[.val (.int p1), .val (.int p2), .val (.int p3), .val (.int p4), .val (.int p5), .val (.int r2), .val (.int r4), .val (.int r6), .val (.int r8), .val (.int r10), .val (.int r12), .val (.int r14), .val (.int r16), .val (.int r18), .val (.int r20), .val (.int v24), .val (.int v25), .val (.int v26), .val (.int v27), .val (.ref b28), .val (.ref b29), .val (.ref b30), .val (.int (Int32.ofNat na)), .val (.int ((Int32.ofNat nb) + (1 : Int32))), .val (.int (Int32.ofNat ne)), .unset, .unset, .unset] [])) (fun tgt cont => ?_) ?_
                · refine XS.ifYes X104.here hx rfl (pc0 := 247) (pc' := 260) rfl (hb hby at_247) rfl (XT.i0_eq_t hc105) (by decide) (by decide) ?_
                  exact cont
                simp only [own_one]
                have f106 := (f92_0.other W104 ne_b28_b29)
                have f107 := (f92_2.other W104 (Ne.symm ne_b29_b30))
                exact KE2 _ _ _ na (nb + 1) ne _ _ _ (own_wide X104 (by decide) (by decide)) e104 N104 kk104 f106 A104 f107 la (by rw [List.length_set]; exact lb) le (by omega) (by omega) (by omega) (by omega) (by rw [ha, own_pa_n hc93, List.append_nil]) (by rw [own_take_set (by omega), hpb, own_pb_y hc93 hc99]) (by rw [he, own_pe_n (c := v25) (v := r18) hc105, List.append_nil])
              ·
                refine own_go (B := T104.setTop (mkF m 256 #[.val (.int p1), .val (.int p2), .val (.int p3), .val (.int p4), .val (.int p5), .val (.int r2), .val (.int r4), .val (.int r6), .val (.int r8), .val (.int r10), .val (.int r12), .val (.int r14), .val (.int r16), .val (.int r18), .val (.int r20), .val (.int v24), .val (.int v25), .val (.int v26), .val (.int v27), .val (.ref b28), .val (.ref b29), .val (.ref b30), .val (.int (Int32.ofNat na)), .val (.int ((Int32.ofNat nb) + (1 : Int32))), .val (.int (Int32.ofNat ne)), .unset, .unset, .unset] [(.int r18), (.int (Int32.ofNat ne)), (.ref b30)])) (fun tgt cont => ?_) ?_
                · refine XS.ifNo X104.here hx rfl (hb hby at_247) rfl (XT.i0_eq_f hc105) ?_
                  refine XS.aload X104.here hx rfl (hb hby at_250) rfl rfl ?_
                  refine XS.iload X104.here hx rfl (hb hby at_252) rfl ?_
                  refine XS.iload X104.here hx rfl (hb hby at_254) rfl ?_
                  exact cont
                have f108 := (f92_2.other W104 (Ne.symm ne_b29_b30))
                obtain ⟨T109, h109, X109, e109, W109, A109, st109⟩ := own_stIAn X104 hx hZ e104 f108 (i := ne) (x := r18) (by omega) (g := (mkF m 256 #[.val (.int p1), .val (.int p2), .val (.int p3), .val (.int p4), .val (.int p5), .val (.int r2), .val (.int r4), .val (.int r6), .val (.int r8), .val (.int r10), .val (.int r12), .val (.int r14), .val (.int r16), .val (.int r18), .val (.int r20), .val (.int v24), .val (.int v25), .val (.int v26), .val (.int v27), .val (.ref b28), .val (.ref b29), .val (.ref b30), .val (.int (Int32.ofNat na)), .val (.int ((Int32.ofNat nb) + (1 : Int32))), .val (.int (Int32.ofNat ne)), .unset, .unset, .unset] [(.int r18), (.int (Int32.ofNat ne)), (.ref b30)])) rfl rfl (hb hby at_256)
                have N109 := Fr.snoc X109 N104 g_b30
                have kk109 : Keep h0 h109 [] := kk104.wr W109 (Or.inr sz_b30)
                have zp109 : n0 ≤ h109.size := Nat.le_trans Z0 kk109.1
                refine own_go (fun tgt cont => st109 tgt cont) ?_
                show own_Go p e below s (Q0 n0) room_1.cells room_1.slots (T109.setTop (mkF m 257 #[.val (.int p1), .val (.int p2), .val (.int p3), .val (.int p4), .val (.int p5), .val (.int r2), .val (.int r4), .val (.int r6), .val (.int r8), .val (.int r10), .val (.int r12), .val (.int r14), .val (.int r16), .val (.int r18), .val (.int r20), .val (.int v24), .val (.int v25), .val (.int v26), .val (.int v27), .val (.ref b28), .val (.ref b29), .val (.ref b30), .val (.int (Int32.ofNat na)), .val (.int ((Int32.ofNat nb) + (1 : Int32))), .val (.int (Int32.ofNat ne)), .unset, .unset, .unset] []))
                refine own_go (B := T109.setTop (mkF m 260 #[.val (.int p1), .val (.int p2), .val (.int p3), .val (.int p4), .val (.int p5), .val (.int r2), .val (.int r4), .val (.int r6), .val (.int r8), .val (.int r10), .val (.int r12), .val (.int r14), .val (.int r16), .val (.int r18), .val (.int r20), .val (.int v24), .val (.int v25), .val (.int v26), .val (.int v27), .val (.ref b28), .val (.ref b29), .val (.ref b30), .val (.int (Int32.ofNat na)), .val (.int ((Int32.ofNat nb) + (1 : Int32))), .val (.int ((Int32.ofNat ne) + (1 : Int32))), .unset, .unset, .unset] [])) (fun tgt cont => ?_) ?_
                · refine XT.iincV X109.here hx rfl (1 : Int32) (hb hby at_257) rfl rfl (l' := #[.val (.int p1), .val (.int p2), .val (.int p3), .val (.int p4), .val (.int p5), .val (.int r2), .val (.int r4), .val (.int r6), .val (.int r8), .val (.int r10), .val (.int r12), .val (.int r14), .val (.int r16), .val (.int r18), .val (.int r20), .val (.int v24), .val (.int v25), .val (.int v26), .val (.int v27), .val (.ref b28), .val (.ref b29), .val (.ref b30), .val (.int (Int32.ofNat na)), .val (.int ((Int32.ofNat nb) + (1 : Int32))), .val (.int ((Int32.ofNat ne) + (1 : Int32))), .unset, .unset, .unset]) rfl ?_
                  exact cont
                simp only [own_one]
                have f110 := ((f92_0.other W104 ne_b28_b29).other W109 ne_b28_b30)
                have f111 := (A104.other W109 ne_b29_b30)
                exact KE2 _ _ _ na (nb + 1) (ne + 1) _ _ _ (own_wide X109 (by decide) (by decide)) e109 N109 kk109 f110 f111 A109 la (by rw [List.length_set]; exact lb) (by rw [List.length_set]; exact le) (by omega) (by omega) (by omega) (by omega) (by rw [ha, own_pa_n hc93, List.append_nil]) (by rw [own_take_set (by omega), hpb, own_pb_y hc93 hc99]) (by rw [own_take_set (by omega), he, own_pe_y (c := v25) (v := r18) hc105])
        have KE0 : ∀ (T112 : State) (L112 : List Loc) (h112 : Heap) (na nb ne : Nat) (qa qb qe : List Int32) (X112 : Stand p l e room_1 s m #[(.int p1), (.int p2), (.int p3), (.int p4), (.int p5)] below meth c T112 L112 3 12) (e112 : T112.heap = h112) (N112 : Fr n0 L112) (kk112 : Keep h0 h112 []) (f112_0 : own_IA Z h112 b28 qa) (f112_1 : own_IA Z h112 b29 qb) (f112_2 : own_IA Z h112 b30 qe) (la : qa.length = 4) (lb : qb.length = 4) (le : qe.length = 4) (na0 : na ≤ 0) (nb0 : nb ≤ 0) (ne0 : ne ≤ 0) (nab : na + nb ≤ 0) (ha : qa.take na = []) (hpb : qb.take nb = []) (he : qe.take ne = []), own_Go p e below s (Q0 n0) room_1.cells room_1.slots (T112.setTop (mkF m 160 #[.val (.int p1), .val (.int p2), .val (.int p3), .val (.int p4), .val (.int p5), .val (.int r2), .val (.int r4), .val (.int r6), .val (.int r8), .val (.int r10), .val (.int r12), .val (.int r14), .val (.int r16), .val (.int r18), .val (.int r20), .val (.int v24), .val (.int v25), .val (.int v26), .val (.int v27), .val (.ref b28), .val (.ref b29), .val (.ref b30), .val (.int (Int32.ofNat na)), .val (.int (Int32.ofNat nb)), .val (.int (Int32.ofNat ne)), .unset, .unset, .unset] [])) := by
          intro T112 L112 h112 na nb ne qa qb qe X112 e112 N112 kk112 f112_0 f112_1 f112_2 la lb le na0 nb0 ne0 nab ha hpb he
          have zp112 : n0 ≤ h112.size := Nat.le_trans Z0 kk112.1
          refine own_go (B := T112.setTop (mkF m 163 #[.val (.int p1), .val (.int p2), .val (.int p3), .val (.int p4), .val (.int p5), .val (.int r2), .val (.int r4), .val (.int r6), .val (.int r8), .val (.int r10), .val (.int r12), .val (.int r14), .val (.int r16), .val (.int r18), .val (.int r20), .val (.int v24), .val (.int v25), .val (.int v26), .val (.int v27), .val (.ref b28), .val (.ref b29), .val (.ref b30), .val (.int (Int32.ofNat na)), .val (.int (Int32.ofNat nb)), .val (.int (Int32.ofNat ne)), .unset, .unset, .unset] [(.int (1 : Int32)), (.int v24)])) (fun tgt cont => ?_) ?_
          · refine XS.iload X112.here hx rfl (hb hby at_160) rfl ?_
            refine XT.iconstV X112.here hx rfl (1 : Int32) (hb hby at_162) rfl ?_
            exact cont
          by_cases hc113 : v24 = (1 : Int32)
          ·
            refine own_go (B := T112.setTop (mkF m 172 #[.val (.int p1), .val (.int p2), .val (.int p3), .val (.int p4), .val (.int p5), .val (.int r2), .val (.int r4), .val (.int r6), .val (.int r8), .val (.int r10), .val (.int r12), .val (.int r14), .val (.int r16), .val (.int r18), .val (.int r20), .val (.int v24), .val (.int v25), .val (.int v26), .val (.int v27), .val (.ref b28), .val (.ref b29), .val (.ref b30), .val (.int (Int32.ofNat na)), .val (.int (Int32.ofNat nb)), .val (.int (Int32.ofNat ne)), .unset, .unset, .unset] [(.int r10), (.int (Int32.ofNat na)), (.ref b28)])) (fun tgt cont => ?_) ?_
            · refine XS.icmpNo X112.here hx rfl (hb hby at_163) rfl (XT.ii_ne_f hc113) ?_
              refine XS.aload X112.here hx rfl (hb hby at_166) rfl rfl ?_
              refine XS.iload X112.here hx rfl (hb hby at_168) rfl ?_
              refine XS.iload X112.here hx rfl (hb hby at_170) rfl ?_
              exact cont
            obtain ⟨T114, h114, X114, e114, W114, A114, st114⟩ := own_stIAn X112 hx hZ e112 f112_0 (i := na) (x := r10) (by omega) (g := (mkF m 172 #[.val (.int p1), .val (.int p2), .val (.int p3), .val (.int p4), .val (.int p5), .val (.int r2), .val (.int r4), .val (.int r6), .val (.int r8), .val (.int r10), .val (.int r12), .val (.int r14), .val (.int r16), .val (.int r18), .val (.int r20), .val (.int v24), .val (.int v25), .val (.int v26), .val (.int v27), .val (.ref b28), .val (.ref b29), .val (.ref b30), .val (.int (Int32.ofNat na)), .val (.int (Int32.ofNat nb)), .val (.int (Int32.ofNat ne)), .unset, .unset, .unset] [(.int r10), (.int (Int32.ofNat na)), (.ref b28)])) rfl rfl (hb hby at_172)
            have N114 := Fr.snoc X114 N112 g_b28
            have kk114 : Keep h0 h114 [] := kk112.wr W114 (Or.inr sz_b28)
            have zp114 : n0 ≤ h114.size := Nat.le_trans Z0 kk114.1
            refine own_go (fun tgt cont => st114 tgt cont) ?_
            show own_Go p e below s (Q0 n0) room_1.cells room_1.slots (T114.setTop (mkF m 173 #[.val (.int p1), .val (.int p2), .val (.int p3), .val (.int p4), .val (.int p5), .val (.int r2), .val (.int r4), .val (.int r6), .val (.int r8), .val (.int r10), .val (.int r12), .val (.int r14), .val (.int r16), .val (.int r18), .val (.int r20), .val (.int v24), .val (.int v25), .val (.int v26), .val (.int v27), .val (.ref b28), .val (.ref b29), .val (.ref b30), .val (.int (Int32.ofNat na)), .val (.int (Int32.ofNat nb)), .val (.int (Int32.ofNat ne)), .unset, .unset, .unset] []))
            refine own_go (B := T114.setTop (mkF m 206 #[.val (.int p1), .val (.int p2), .val (.int p3), .val (.int p4), .val (.int p5), .val (.int r2), .val (.int r4), .val (.int r6), .val (.int r8), .val (.int r10), .val (.int r12), .val (.int r14), .val (.int r16), .val (.int r18), .val (.int r20), .val (.int v24), .val (.int v25), .val (.int v26), .val (.int v27), .val (.ref b28), .val (.ref b29), .val (.ref b30), .val (.int ((Int32.ofNat na) + (1 : Int32))), .val (.int (Int32.ofNat nb)), .val (.int (Int32.ofNat ne)), .unset, .unset, .unset] [(.int r10), (.int (Int32.ofNat ne)), (.ref b30)])) (fun tgt cont => ?_) ?_
            · refine XT.iincV X114.here hx rfl (1 : Int32) (hb hby at_173) rfl rfl (l' := #[.val (.int p1), .val (.int p2), .val (.int p3), .val (.int p4), .val (.int p5), .val (.int r2), .val (.int r4), .val (.int r6), .val (.int r8), .val (.int r10), .val (.int r12), .val (.int r14), .val (.int r16), .val (.int r18), .val (.int r20), .val (.int v24), .val (.int v25), .val (.int v26), .val (.int v27), .val (.ref b28), .val (.ref b29), .val (.ref b30), .val (.int ((Int32.ofNat na) + (1 : Int32))), .val (.int (Int32.ofNat nb)), .val (.int (Int32.ofNat ne)), .unset, .unset, .unset]) rfl ?_
              refine XS.goto X114.here hx rfl (pc0 := 176) (pc' := 195) rfl (hb hby at_176) (by decide) (by decide) ?_
              refine XS.iload X114.here hx rfl (hb hby at_195) rfl ?_
              refine XS.ifNo X114.here hx rfl (hb hby at_197) rfl (XT.i0_eq_f (by rw [hc113]; decide)) ?_
              refine XS.aload X114.here hx rfl (hb hby at_200) rfl rfl ?_
              refine XS.iload X114.here hx rfl (hb hby at_202) rfl ?_
              refine XS.iload X114.here hx rfl (hb hby at_204) rfl ?_
              exact cont
            have f115 := (f112_2.other W114 (Ne.symm ne_b28_b30))
            obtain ⟨T116, h116, X116, e116, W116, A116, st116⟩ := own_stIAn X114 hx hZ e114 f115 (i := ne) (x := r10) (by omega) (g := (mkF m 206 #[.val (.int p1), .val (.int p2), .val (.int p3), .val (.int p4), .val (.int p5), .val (.int r2), .val (.int r4), .val (.int r6), .val (.int r8), .val (.int r10), .val (.int r12), .val (.int r14), .val (.int r16), .val (.int r18), .val (.int r20), .val (.int v24), .val (.int v25), .val (.int v26), .val (.int v27), .val (.ref b28), .val (.ref b29), .val (.ref b30), .val (.int ((Int32.ofNat na) + (1 : Int32))), .val (.int (Int32.ofNat nb)), .val (.int (Int32.ofNat ne)), .unset, .unset, .unset] [(.int r10), (.int (Int32.ofNat ne)), (.ref b30)])) rfl rfl (hb hby at_206)
            have N116 := Fr.snoc X116 N114 g_b30
            have kk116 : Keep h0 h116 [] := kk114.wr W116 (Or.inr sz_b30)
            have zp116 : n0 ≤ h116.size := Nat.le_trans Z0 kk116.1
            refine own_go (fun tgt cont => st116 tgt cont) ?_
            show own_Go p e below s (Q0 n0) room_1.cells room_1.slots (T116.setTop (mkF m 207 #[.val (.int p1), .val (.int p2), .val (.int p3), .val (.int p4), .val (.int p5), .val (.int r2), .val (.int r4), .val (.int r6), .val (.int r8), .val (.int r10), .val (.int r12), .val (.int r14), .val (.int r16), .val (.int r18), .val (.int r20), .val (.int v24), .val (.int v25), .val (.int v26), .val (.int v27), .val (.ref b28), .val (.ref b29), .val (.ref b30), .val (.int ((Int32.ofNat na) + (1 : Int32))), .val (.int (Int32.ofNat nb)), .val (.int (Int32.ofNat ne)), .unset, .unset, .unset] []))
            refine own_go (B := T116.setTop (mkF m 210 #[.val (.int p1), .val (.int p2), .val (.int p3), .val (.int p4), .val (.int p5), .val (.int r2), .val (.int r4), .val (.int r6), .val (.int r8), .val (.int r10), .val (.int r12), .val (.int r14), .val (.int r16), .val (.int r18), .val (.int r20), .val (.int v24), .val (.int v25), .val (.int v26), .val (.int v27), .val (.ref b28), .val (.ref b29), .val (.ref b30), .val (.int ((Int32.ofNat na) + (1 : Int32))), .val (.int (Int32.ofNat nb)), .val (.int ((Int32.ofNat ne) + (1 : Int32))), .unset, .unset, .unset] [])) (fun tgt cont => ?_) ?_
            · refine XT.iincV X116.here hx rfl (1 : Int32) (hb hby at_207) rfl rfl (l' := #[.val (.int p1), .val (.int p2), .val (.int p3), .val (.int p4), .val (.int p5), .val (.int r2), .val (.int r4), .val (.int r6), .val (.int r8), .val (.int r10), .val (.int r12), .val (.int r14), .val (.int r16), .val (.int r18), .val (.int r20), .val (.int v24), .val (.int v25), .val (.int v26), .val (.int v27), .val (.ref b28), .val (.ref b29), .val (.ref b30), .val (.int ((Int32.ofNat na) + (1 : Int32))), .val (.int (Int32.ofNat nb)), .val (.int ((Int32.ofNat ne) + (1 : Int32))), .unset, .unset, .unset]) rfl ?_
              exact cont
            simp only [own_one]
            have f117 := (A114.other W116 ne_b28_b30)
            have f118 := ((f112_1.other W114 (Ne.symm ne_b28_b29)).other W116 ne_b29_b30)
            exact KE1 _ _ _ (na + 1) nb (ne + 1) _ _ _ (own_wide X116 (by decide) (by decide)) e116 N116 kk116 f117 f118 A116 (by rw [List.length_set]; exact la) lb (by rw [List.length_set]; exact le) (by omega) (by omega) (by omega) (by omega) (by rw [own_take_set (by omega), ha, own_pa_y hc113, List.nil_append]) (by rw [hpb, own_pb_a hc113]) (by rw [own_take_set (by omega), he, own_pe_y (c := v24) (v := r10) (by rw [hc113]; decide), List.nil_append])
          ·
            refine own_go (B := T112.setTop (mkF m 182 #[.val (.int p1), .val (.int p2), .val (.int p3), .val (.int p4), .val (.int p5), .val (.int r2), .val (.int r4), .val (.int r6), .val (.int r8), .val (.int r10), .val (.int r12), .val (.int r14), .val (.int r16), .val (.int r18), .val (.int r20), .val (.int v24), .val (.int v25), .val (.int v26), .val (.int v27), .val (.ref b28), .val (.ref b29), .val (.ref b30), .val (.int (Int32.ofNat na)), .val (.int (Int32.ofNat nb)), .val (.int (Int32.ofNat ne)), .unset, .unset, .unset] [(.int (2 : Int32)), (.int v24)])) (fun tgt cont => ?_) ?_
            · refine XS.icmpYes X112.here hx rfl (pc0 := 163) (pc' := 179) rfl (hb hby at_163) rfl (XT.ii_ne_t hc113) (by decide) (by decide) ?_
              refine XS.iload X112.here hx rfl (hb hby at_179) rfl ?_
              refine XT.iconstV X112.here hx rfl (2 : Int32) (hb hby at_181) rfl ?_
              exact cont
            by_cases hc119 : v24 < (2 : Int32)
            ·
              refine own_go (B := T112.setTop (mkF m 197 #[.val (.int p1), .val (.int p2), .val (.int p3), .val (.int p4), .val (.int p5), .val (.int r2), .val (.int r4), .val (.int r6), .val (.int r8), .val (.int r10), .val (.int r12), .val (.int r14), .val (.int r16), .val (.int r18), .val (.int r20), .val (.int v24), .val (.int v25), .val (.int v26), .val (.int v27), .val (.ref b28), .val (.ref b29), .val (.ref b30), .val (.int (Int32.ofNat na)), .val (.int (Int32.ofNat nb)), .val (.int (Int32.ofNat ne)), .unset, .unset, .unset] [(.int v24)])) (fun tgt cont => ?_) ?_
              · refine XS.icmpYes X112.here hx rfl (pc0 := 182) (pc' := 195) rfl (hb hby at_182) rfl (XT.ii_lt_t hc119) (by decide) (by decide) ?_
                refine XS.iload X112.here hx rfl (hb hby at_195) rfl ?_
                exact cont
              by_cases hc120 : v24 = 0
              ·
                refine own_go (B := T112.setTop (mkF m 210 #[.val (.int p1), .val (.int p2), .val (.int p3), .val (.int p4), .val (.int p5), .val (.int r2), .val (.int r4), .val (.int r6), .val (.int r8), .val (.int r10), .val (.int r12), .val (.int r14), .val (.int r16), .val (.int r18), .val (.int r20), .val (.int v24), .val (.int v25), .val (.int v26), .val (.int v27), .val (.ref b28), .val (.ref b29), .val (.ref b30), .val (.int (Int32.ofNat na)), .val (.int (Int32.ofNat nb)), .val (.int (Int32.ofNat ne)), .unset, .unset, .unset] [])) (fun tgt cont => ?_) ?_
                · refine XS.ifYes X112.here hx rfl (pc0 := 197) (pc' := 210) rfl (hb hby at_197) rfl (XT.i0_eq_t hc120) (by decide) (by decide) ?_
                  exact cont
                exact KE1 _ _ _ na nb ne _ _ _ (own_wide X112 (by decide) (by decide)) e112 N112 kk112 f112_0 f112_1 f112_2 la lb le (by omega) (by omega) (by omega) (by omega) (by rw [ha, own_pa_n hc113]) (by rw [hpb, own_pb_n hc113 hc119]) (by rw [he, own_pe_n (c := v24) (v := r10) hc120])
              ·
                refine own_go (B := T112.setTop (mkF m 206 #[.val (.int p1), .val (.int p2), .val (.int p3), .val (.int p4), .val (.int p5), .val (.int r2), .val (.int r4), .val (.int r6), .val (.int r8), .val (.int r10), .val (.int r12), .val (.int r14), .val (.int r16), .val (.int r18), .val (.int r20), .val (.int v24), .val (.int v25), .val (.int v26), .val (.int v27), .val (.ref b28), .val (.ref b29), .val (.ref b30), .val (.int (Int32.ofNat na)), .val (.int (Int32.ofNat nb)), .val (.int (Int32.ofNat ne)), .unset, .unset, .unset] [(.int r10), (.int (Int32.ofNat ne)), (.ref b30)])) (fun tgt cont => ?_) ?_
                · refine XS.ifNo X112.here hx rfl (hb hby at_197) rfl (XT.i0_eq_f hc120) ?_
                  refine XS.aload X112.here hx rfl (hb hby at_200) rfl rfl ?_
                  refine XS.iload X112.here hx rfl (hb hby at_202) rfl ?_
                  refine XS.iload X112.here hx rfl (hb hby at_204) rfl ?_
                  exact cont
                obtain ⟨T121, h121, X121, e121, W121, A121, st121⟩ := own_stIAn X112 hx hZ e112 f112_2 (i := ne) (x := r10) (by omega) (g := (mkF m 206 #[.val (.int p1), .val (.int p2), .val (.int p3), .val (.int p4), .val (.int p5), .val (.int r2), .val (.int r4), .val (.int r6), .val (.int r8), .val (.int r10), .val (.int r12), .val (.int r14), .val (.int r16), .val (.int r18), .val (.int r20), .val (.int v24), .val (.int v25), .val (.int v26), .val (.int v27), .val (.ref b28), .val (.ref b29), .val (.ref b30), .val (.int (Int32.ofNat na)), .val (.int (Int32.ofNat nb)), .val (.int (Int32.ofNat ne)), .unset, .unset, .unset] [(.int r10), (.int (Int32.ofNat ne)), (.ref b30)])) rfl rfl (hb hby at_206)
                have N121 := Fr.snoc X121 N112 g_b30
                have kk121 : Keep h0 h121 [] := kk112.wr W121 (Or.inr sz_b30)
                have zp121 : n0 ≤ h121.size := Nat.le_trans Z0 kk121.1
                refine own_go (fun tgt cont => st121 tgt cont) ?_
                show own_Go p e below s (Q0 n0) room_1.cells room_1.slots (T121.setTop (mkF m 207 #[.val (.int p1), .val (.int p2), .val (.int p3), .val (.int p4), .val (.int p5), .val (.int r2), .val (.int r4), .val (.int r6), .val (.int r8), .val (.int r10), .val (.int r12), .val (.int r14), .val (.int r16), .val (.int r18), .val (.int r20), .val (.int v24), .val (.int v25), .val (.int v26), .val (.int v27), .val (.ref b28), .val (.ref b29), .val (.ref b30), .val (.int (Int32.ofNat na)), .val (.int (Int32.ofNat nb)), .val (.int (Int32.ofNat ne)), .unset, .unset, .unset] []))
                refine own_go (B := T121.setTop (mkF m 210 #[.val (.int p1), .val (.int p2), .val (.int p3), .val (.int p4), .val (.int p5), .val (.int r2), .val (.int r4), .val (.int r6), .val (.int r8), .val (.int r10), .val (.int r12), .val (.int r14), .val (.int r16), .val (.int r18), .val (.int r20), .val (.int v24), .val (.int v25), .val (.int v26), .val (.int v27), .val (.ref b28), .val (.ref b29), .val (.ref b30), .val (.int (Int32.ofNat na)), .val (.int (Int32.ofNat nb)), .val (.int ((Int32.ofNat ne) + (1 : Int32))), .unset, .unset, .unset] [])) (fun tgt cont => ?_) ?_
                · refine XT.iincV X121.here hx rfl (1 : Int32) (hb hby at_207) rfl rfl (l' := #[.val (.int p1), .val (.int p2), .val (.int p3), .val (.int p4), .val (.int p5), .val (.int r2), .val (.int r4), .val (.int r6), .val (.int r8), .val (.int r10), .val (.int r12), .val (.int r14), .val (.int r16), .val (.int r18), .val (.int r20), .val (.int v24), .val (.int v25), .val (.int v26), .val (.int v27), .val (.ref b28), .val (.ref b29), .val (.ref b30), .val (.int (Int32.ofNat na)), .val (.int (Int32.ofNat nb)), .val (.int ((Int32.ofNat ne) + (1 : Int32))), .unset, .unset, .unset]) rfl ?_
                  exact cont
                simp only [own_one]
                have f122 := (f112_0.other W121 ne_b28_b30)
                have f123 := (f112_1.other W121 ne_b29_b30)
                exact KE1 _ _ _ na nb (ne + 1) _ _ _ (own_wide X121 (by decide) (by decide)) e121 N121 kk121 f122 f123 A121 la lb (by rw [List.length_set]; exact le) (by omega) (by omega) (by omega) (by omega) (by rw [ha, own_pa_n hc113]) (by rw [hpb, own_pb_n hc113 hc119]) (by rw [own_take_set (by omega), he, own_pe_y (c := v24) (v := r10) hc120, List.nil_append])
            ·
              refine own_go (B := T112.setTop (mkF m 191 #[.val (.int p1), .val (.int p2), .val (.int p3), .val (.int p4), .val (.int p5), .val (.int r2), .val (.int r4), .val (.int r6), .val (.int r8), .val (.int r10), .val (.int r12), .val (.int r14), .val (.int r16), .val (.int r18), .val (.int r20), .val (.int v24), .val (.int v25), .val (.int v26), .val (.int v27), .val (.ref b28), .val (.ref b29), .val (.ref b30), .val (.int (Int32.ofNat na)), .val (.int (Int32.ofNat nb)), .val (.int (Int32.ofNat ne)), .unset, .unset, .unset] [(.int r10), (.int (Int32.ofNat nb)), (.ref b29)])) (fun tgt cont => ?_) ?_
              · refine XS.icmpNo X112.here hx rfl (hb hby at_182) rfl (XT.ii_lt_f hc119) ?_
                refine XS.aload X112.here hx rfl (hb hby at_185) rfl rfl ?_
                refine XS.iload X112.here hx rfl (hb hby at_187) rfl ?_
                refine XS.iload X112.here hx rfl (hb hby at_189) rfl ?_
                exact cont
              obtain ⟨T124, h124, X124, e124, W124, A124, st124⟩ := own_stIAn X112 hx hZ e112 f112_1 (i := nb) (x := r10) (by omega) (g := (mkF m 191 #[.val (.int p1), .val (.int p2), .val (.int p3), .val (.int p4), .val (.int p5), .val (.int r2), .val (.int r4), .val (.int r6), .val (.int r8), .val (.int r10), .val (.int r12), .val (.int r14), .val (.int r16), .val (.int r18), .val (.int r20), .val (.int v24), .val (.int v25), .val (.int v26), .val (.int v27), .val (.ref b28), .val (.ref b29), .val (.ref b30), .val (.int (Int32.ofNat na)), .val (.int (Int32.ofNat nb)), .val (.int (Int32.ofNat ne)), .unset, .unset, .unset] [(.int r10), (.int (Int32.ofNat nb)), (.ref b29)])) rfl rfl (hb hby at_191)
              have N124 := Fr.snoc X124 N112 g_b29
              have kk124 : Keep h0 h124 [] := kk112.wr W124 (Or.inr sz_b29)
              have zp124 : n0 ≤ h124.size := Nat.le_trans Z0 kk124.1
              refine own_go (fun tgt cont => st124 tgt cont) ?_
              show own_Go p e below s (Q0 n0) room_1.cells room_1.slots (T124.setTop (mkF m 192 #[.val (.int p1), .val (.int p2), .val (.int p3), .val (.int p4), .val (.int p5), .val (.int r2), .val (.int r4), .val (.int r6), .val (.int r8), .val (.int r10), .val (.int r12), .val (.int r14), .val (.int r16), .val (.int r18), .val (.int r20), .val (.int v24), .val (.int v25), .val (.int v26), .val (.int v27), .val (.ref b28), .val (.ref b29), .val (.ref b30), .val (.int (Int32.ofNat na)), .val (.int (Int32.ofNat nb)), .val (.int (Int32.ofNat ne)), .unset, .unset, .unset] []))
              refine own_go (B := T124.setTop (mkF m 197 #[.val (.int p1), .val (.int p2), .val (.int p3), .val (.int p4), .val (.int p5), .val (.int r2), .val (.int r4), .val (.int r6), .val (.int r8), .val (.int r10), .val (.int r12), .val (.int r14), .val (.int r16), .val (.int r18), .val (.int r20), .val (.int v24), .val (.int v25), .val (.int v26), .val (.int v27), .val (.ref b28), .val (.ref b29), .val (.ref b30), .val (.int (Int32.ofNat na)), .val (.int ((Int32.ofNat nb) + (1 : Int32))), .val (.int (Int32.ofNat ne)), .unset, .unset, .unset] [(.int v24)])) (fun tgt cont => ?_) ?_
              · refine XT.iincV X124.here hx rfl (1 : Int32) (hb hby at_192) rfl rfl (l' := #[.val (.int p1), .val (.int p2), .val (.int p3), .val (.int p4), .val (.int p5), .val (.int r2), .val (.int r4), .val (.int r6), .val (.int r8), .val (.int r10), .val (.int r12), .val (.int r14), .val (.int r16), .val (.int r18), .val (.int r20), .val (.int v24), .val (.int v25), .val (.int v26), .val (.int v27), .val (.ref b28), .val (.ref b29), .val (.ref b30), .val (.int (Int32.ofNat na)), .val (.int ((Int32.ofNat nb) + (1 : Int32))), .val (.int (Int32.ofNat ne)), .unset, .unset, .unset]) rfl ?_
                refine XS.iload X124.here hx rfl (hb hby at_195) rfl ?_
                exact cont
              by_cases hc125 : v24 = 0
              ·
                refine own_go (B := T124.setTop (mkF m 210 #[.val (.int p1), .val (.int p2), .val (.int p3), .val (.int p4), .val (.int p5), .val (.int r2), .val (.int r4), .val (.int r6), .val (.int r8), .val (.int r10), .val (.int r12), .val (.int r14), .val (.int r16), .val (.int r18), .val (.int r20), .val (.int v24), .val (.int v25), .val (.int v26), .val (.int v27), .val (.ref b28), .val (.ref b29), .val (.ref b30), .val (.int (Int32.ofNat na)), .val (.int ((Int32.ofNat nb) + (1 : Int32))), .val (.int (Int32.ofNat ne)), .unset, .unset, .unset] [])) (fun tgt cont => ?_) ?_
                · refine XS.ifYes X124.here hx rfl (pc0 := 197) (pc' := 210) rfl (hb hby at_197) rfl (XT.i0_eq_t hc125) (by decide) (by decide) ?_
                  exact cont
                simp only [own_one]
                have f126 := (f112_0.other W124 ne_b28_b29)
                have f127 := (f112_2.other W124 (Ne.symm ne_b29_b30))
                exact KE1 _ _ _ na (nb + 1) ne _ _ _ (own_wide X124 (by decide) (by decide)) e124 N124 kk124 f126 A124 f127 la (by rw [List.length_set]; exact lb) le (by omega) (by omega) (by omega) (by omega) (by rw [ha, own_pa_n hc113]) (by rw [own_take_set (by omega), hpb, own_pb_y hc113 hc119, List.nil_append]) (by rw [he, own_pe_n (c := v24) (v := r10) hc125])
              ·
                refine own_go (B := T124.setTop (mkF m 206 #[.val (.int p1), .val (.int p2), .val (.int p3), .val (.int p4), .val (.int p5), .val (.int r2), .val (.int r4), .val (.int r6), .val (.int r8), .val (.int r10), .val (.int r12), .val (.int r14), .val (.int r16), .val (.int r18), .val (.int r20), .val (.int v24), .val (.int v25), .val (.int v26), .val (.int v27), .val (.ref b28), .val (.ref b29), .val (.ref b30), .val (.int (Int32.ofNat na)), .val (.int ((Int32.ofNat nb) + (1 : Int32))), .val (.int (Int32.ofNat ne)), .unset, .unset, .unset] [(.int r10), (.int (Int32.ofNat ne)), (.ref b30)])) (fun tgt cont => ?_) ?_
                · refine XS.ifNo X124.here hx rfl (hb hby at_197) rfl (XT.i0_eq_f hc125) ?_
                  refine XS.aload X124.here hx rfl (hb hby at_200) rfl rfl ?_
                  refine XS.iload X124.here hx rfl (hb hby at_202) rfl ?_
                  refine XS.iload X124.here hx rfl (hb hby at_204) rfl ?_
                  exact cont
                have f128 := (f112_2.other W124 (Ne.symm ne_b29_b30))
                obtain ⟨T129, h129, X129, e129, W129, A129, st129⟩ := own_stIAn X124 hx hZ e124 f128 (i := ne) (x := r10) (by omega) (g := (mkF m 206 #[.val (.int p1), .val (.int p2), .val (.int p3), .val (.int p4), .val (.int p5), .val (.int r2), .val (.int r4), .val (.int r6), .val (.int r8), .val (.int r10), .val (.int r12), .val (.int r14), .val (.int r16), .val (.int r18), .val (.int r20), .val (.int v24), .val (.int v25), .val (.int v26), .val (.int v27), .val (.ref b28), .val (.ref b29), .val (.ref b30), .val (.int (Int32.ofNat na)), .val (.int ((Int32.ofNat nb) + (1 : Int32))), .val (.int (Int32.ofNat ne)), .unset, .unset, .unset] [(.int r10), (.int (Int32.ofNat ne)), (.ref b30)])) rfl rfl (hb hby at_206)
                have N129 := Fr.snoc X129 N124 g_b30
                have kk129 : Keep h0 h129 [] := kk124.wr W129 (Or.inr sz_b30)
                have zp129 : n0 ≤ h129.size := Nat.le_trans Z0 kk129.1
                refine own_go (fun tgt cont => st129 tgt cont) ?_
                show own_Go p e below s (Q0 n0) room_1.cells room_1.slots (T129.setTop (mkF m 207 #[.val (.int p1), .val (.int p2), .val (.int p3), .val (.int p4), .val (.int p5), .val (.int r2), .val (.int r4), .val (.int r6), .val (.int r8), .val (.int r10), .val (.int r12), .val (.int r14), .val (.int r16), .val (.int r18), .val (.int r20), .val (.int v24), .val (.int v25), .val (.int v26), .val (.int v27), .val (.ref b28), .val (.ref b29), .val (.ref b30), .val (.int (Int32.ofNat na)), .val (.int ((Int32.ofNat nb) + (1 : Int32))), .val (.int (Int32.ofNat ne)), .unset, .unset, .unset] []))
                refine own_go (B := T129.setTop (mkF m 210 #[.val (.int p1), .val (.int p2), .val (.int p3), .val (.int p4), .val (.int p5), .val (.int r2), .val (.int r4), .val (.int r6), .val (.int r8), .val (.int r10), .val (.int r12), .val (.int r14), .val (.int r16), .val (.int r18), .val (.int r20), .val (.int v24), .val (.int v25), .val (.int v26), .val (.int v27), .val (.ref b28), .val (.ref b29), .val (.ref b30), .val (.int (Int32.ofNat na)), .val (.int ((Int32.ofNat nb) + (1 : Int32))), .val (.int ((Int32.ofNat ne) + (1 : Int32))), .unset, .unset, .unset] [])) (fun tgt cont => ?_) ?_
                · refine XT.iincV X129.here hx rfl (1 : Int32) (hb hby at_207) rfl rfl (l' := #[.val (.int p1), .val (.int p2), .val (.int p3), .val (.int p4), .val (.int p5), .val (.int r2), .val (.int r4), .val (.int r6), .val (.int r8), .val (.int r10), .val (.int r12), .val (.int r14), .val (.int r16), .val (.int r18), .val (.int r20), .val (.int v24), .val (.int v25), .val (.int v26), .val (.int v27), .val (.ref b28), .val (.ref b29), .val (.ref b30), .val (.int (Int32.ofNat na)), .val (.int ((Int32.ofNat nb) + (1 : Int32))), .val (.int ((Int32.ofNat ne) + (1 : Int32))), .unset, .unset, .unset]) rfl ?_
                  exact cont
                simp only [own_one]
                have f130 := ((f112_0.other W124 ne_b28_b29).other W129 ne_b28_b30)
                have f131 := (A124.other W129 ne_b29_b30)
                exact KE1 _ _ _ na (nb + 1) (ne + 1) _ _ _ (own_wide X129 (by decide) (by decide)) e129 N129 kk129 f130 f131 A129 la (by rw [List.length_set]; exact lb) (by rw [List.length_set]; exact le) (by omega) (by omega) (by omega) (by omega) (by rw [ha, own_pa_n hc113]) (by rw [own_take_set (by omega), hpb, own_pb_y hc113 hc119, List.nil_append]) (by rw [own_take_set (by omega), he, own_pe_y (c := v24) (v := r10) hc125, List.nil_append])
        have f132 := (f31.ext E30)
        have f133 := (A29v.ext E30)
        exact KE0 _ _ _ 0 0 0 _ _ _ (own_wide X30 (by decide) (by decide)) e30 N19 kk30 f132 f133 A30v rfl rfl rfl (Nat.le_refl _) (Nat.le_refl _) (Nat.le_refl _) (Nat.le_refl _) rfl rfl rfl
      ·
        refine own_go (B := T19.setTop (mkF m 104 #[.val (.int p1), .val (.int p2), .val (.int p3), .val (.int p4), .val (.int p5), .val (.int r2), .val (.int r4), .val (.int r6), .val (.int r8), .val (.int r10), .val (.int r12), .val (.int r14), .val (.int r16), .val (.int r18), .val (.int r20), .unset, .unset, .unset, .unset, .unset, .unset, .unset, .unset, .unset, .unset, .unset, .unset, .unset] [(.int (1 : Int32))])) (fun tgt cont => ?_) ?_
        · refine XS.icmpNo X19.here hx rfl (hb hby at_100) rfl (XT.ii_lt_f hc23) ?_
          refine XT.iconstV X19.here hx rfl (1 : Int32) (hb hby at_103) rfl ?_
          exact cont
        refine own_end X19 (v := some (.int (1 : Int32))) (fun h => by rw [Bd.returns] at h; cases h) hlk ?_ (by decide) (by decide) (fun fs hl => retN X19 hx (t := .boolean) Bd.returns (by simp) (hb hby at_104) hl)
        exact ⟨rfl, N19⟩
    ·
      refine own_go (B := T19.setTop (mkF m 104 #[.val (.int p1), .val (.int p2), .val (.int p3), .val (.int p4), .val (.int p5), .val (.int r2), .val (.int r4), .val (.int r6), .val (.int r8), .val (.int r10), .val (.int r12), .val (.int r14), .val (.int r16), .val (.int r18), .val (.int r20), .unset, .unset, .unset, .unset, .unset, .unset, .unset, .unset, .unset, .unset, .unset, .unset, .unset] [(.int (1 : Int32))])) (fun tgt cont => ?_) ?_
      · refine XS.icmpYes X19.here hx rfl (pc0 := 93) (pc' := 103) rfl (hb hby at_93) rfl (XT.ii_ge_t hc22) (by decide) (by decide) ?_
        refine XT.iconstV X19.here hx rfl (1 : Int32) (hb hby at_103) rfl ?_
        exact cont
      refine own_end X19 (v := some (.int (1 : Int32))) (fun h => by rw [Bd.returns] at h; cases h) hlk ?_ (by decide) (by decide) (fun fs hl => retN X19 hx (t := .boolean) Bd.returns (by simp) (hb hby at_104) hl)
      exact ⟨rfl, N19⟩
  ·
    refine own_go (B := T19.setTop (mkF m 104 #[.val (.int p1), .val (.int p2), .val (.int p3), .val (.int p4), .val (.int p5), .val (.int r2), .val (.int r4), .val (.int r6), .val (.int r8), .val (.int r10), .val (.int r12), .val (.int r14), .val (.int r16), .val (.int r18), .val (.int r20), .unset, .unset, .unset, .unset, .unset, .unset, .unset, .unset, .unset, .unset, .unset, .unset, .unset] [(.int (1 : Int32))])) (fun tgt cont => ?_) ?_
    · refine XS.icmpYes X19.here hx rfl (pc0 := 86) (pc' := 103) rfl (hb hby at_86) rfl (XT.ii_ge_t hc21) (by decide) (by decide) ?_
      refine XT.iconstV X19.here hx rfl (1 : Int32) (hb hby at_103) rfl ?_
      exact cont
    refine own_end X19 (v := some (.int (1 : Int32))) (fun h => by rw [Bd.returns] at h; cases h) hlk ?_ (by decide) (by decide) (fun fs hl => retN X19 hx (t := .boolean) Bd.returns (by simp) (hb hby at_104) hl)
    exact ⟨rfl, N19⟩
set_option maxRecDepth 65536 in
set_option maxHeartbeats 40000000 in
theorem comes_1 {Post : Tables → Env → Array Value → State → Outcome → State → Prop} (hpost : ∀ tb e args s v u, (limb_1_1.after args s (.returned v) u = true ∧ limb_1_2.after args s (.returned v) u = true ∧ True) → FrameEnd s (.returned v) u (Jvm.fieldLocs frame_1_writes args s ++ Jvm.arrayLocs frame_1_arrays args s ++ Jvm.staticLocs frame_1_statics s) 24 128 → Post tb e args s (.returned v) u) :
    ArmFor flags0 classFile x code maxLocals ret World_1 tables_1 room_1 Calls_1 rest_1 Pre_1 Post := by
  intro l hfl _ _ p e ha hc hk s m args below hf hA hF happ hP
  obtain ⟨hcalls, hrest, hpre⟩ := hP
  obtain ⟨-, -, -, hnamed, -, -, -, hat⟩ := (Spec.applies_iff hf).mp happ
  obtain ⟨hg, hn⟩ := and_e (Cond.before_iff.mp (show (Jvm.Cond.and given_1 narrow_1).before args s = true from hpre))
  obtain ⟨g0, gr0⟩ := and_e hg
  obtain ⟨ga0, gr1⟩ := and_e gr0
  obtain ⟨ga1, gr2⟩ := and_e gr1
  obtain ⟨ga2, gr3⟩ := and_e gr2
  obtain ⟨ga3, gr4⟩ := and_e gr3
  obtain ⟨w0, w1, w2, w3, w4, rfl⟩ : ∃ w0 w1 w2 w3 w4 : Value, args = #[w0, w1, w2, w3, w4] := by
    have hs : args.size = 5 := by simpa [Cond.value, given_1] using g0
    obtain ⟨L⟩ := args
    match L, hs with
    | [w0, w1, w2, w3, w4], _ => exact ⟨w0, w1, w2, w3, w4, rfl⟩
  have hw := fun d (hd : d ∈ tables_1) => atoms_spec (ws := Jvm.Cond.code x code maxLocals ret :: tables_1) hat d (List.mem_cons_of_mem _ hd)
  obtain ⟨i0, ei0⟩ := is_v ga0
  obtain rfl : w0 = (.int i0) := Option.some.inj ei0
  obtain ⟨i1, ei1⟩ := is_v ga1
  obtain rfl : w1 = (.int i1) := Option.some.inj ei1
  obtain ⟨i2, ei2⟩ := is_v ga2
  obtain rfl : w2 = (.int i2) := Option.some.inj ei2
  obtain ⟨i3, ei3⟩ := is_v ga3
  obtain rfl : w3 = (.int i3) := Option.some.inj ei3
  obtain ⟨i4, ei4⟩ := is_v gr4
  obtain rfl : w4 = (.int i4) := Option.some.inj ei4
  obtain ⟨n, o, h1, h2, h3, _, L, rfl, ⟨rfl, N⟩, hq⟩ := rm0 l s _ hw tables_1 i0 i1 i2 i3 i4 s.heap s.heap.size (Nat.le_refl _) p e ha hc hk s m _ below hf ((Spec.applies_iff_loose hf).mp happ).1 ⟨rfl, State.Warmed39.refl s, rfl⟩ trivial
  refine ⟨n, _, h1, h2, h3, hpost _ _ _ _ _ _ ⟨Cond.after_iff.mpr rfl, Cond.after_iff.mpr (eq_i res_at (Term.int_eval (1)) rfl), trivial⟩ ⟨hq.1, hq.2.1, (hq.2.2.sift fun y hy => Or.inr (N y hy)).mono (by decide) (by decide)⟩⟩
theorem main_1_1 : Claimed_1_1 := comes_1 fun _ _ _ _ _ _ h hF => ⟨h.1, hF⟩
theorem main_1_2 : Claimed_1_2 := comes_1 fun _ _ _ _ _ _ h hF => ⟨h.2.1, hF⟩
end Jvm.Pilot.@@N@@
namespace Jvm.Pilot.@@N@@
open Jvm Jvm.ClassFile Sem Op Lib Jvm.Free Jvm.Stand Jvm.Pilot.@@N@@.Jvm.D
/-! MADE BY PROGRAM (witnessworld.py) out of the Statement's table words and the real class files: 10 classes; the members and pool entries that the words name. The judged class is class 1, her method 1. -/
namespace start1
open Jvm.ClassFile
def u (s : String) : CpInfo := .utf8 (stringToUtf16 s)
/-- a pool by its gaps: so many unusable entries, then the entry; so many at the end -/
def gap : Nat → List CpInfo → List CpInfo
  | 0, r => r
  | n + 1, r => .unusable :: gap n r
def poolList (es : List (Nat × CpInfo)) (last : Nat) : List CpInfo := es.foldr (fun e r => gap e.1 (e.2 :: r)) (gap last [])
def pool (es : List (Nat × CpInfo)) (last : Nat) : Array CpInfo := ⟨poolList es last⟩
def fileOf (pool : Array CpInfo) (this : Nat) (attrs : Array Attribute := #[]) (ms : Array MethodInfo := #[]) (fl : Nat := 33) (sup : Nat := 0) (ifs : Array Nat := #[]) (fds : Array FieldInfo := #[]) : ClassFile where
  minorVersion := 0
  majorVersion := 65
  constantPool := pool
  accessFlags := fl
  thisClass := this
  superClass := sup
  interfaces := ifs
  fields := fds
  methods := ms
  attributes := attrs
def plain (name : String) (sup : Option ClassId) : Class where
  name := name
  kind := .ordinary
  loader := none
  accessFlags := 33
  super := sup
  interfaces := #[]
  cf := none
  fields := #[]
  methods := #[]
  instanceTypes := #[]
  staticTypes := #[]
  resolved := #[]
  callSites := []
  init := .initialized
  statics := none
  mirror := none

def pool0 : Array CpInfo := pool [(5, u "<init>"), (0, u "()V"), (1, .class_ 10), (1, u "java/lang/Object")] 113

def k0m0 : Method := { name := "<init>", desc := "()V", sig := { parameters := [], returnType := none }, accessFlags := 1, code := none }
/-- java/lang/Object -/
def k0 : Class := { plain "java/lang/Object" none with
  accessFlags := 33
  interfaces := #[]
  cf := some (fileOf pool0 8 #[] #[{ accessFlags := 1, nameIndex := 5, descriptorIndex := 6, attributes := #[] }] 33 0 #[] #[])
  fields := #[]
  methods := #[k0m0]
  instanceTypes := #[]
  staticTypes := #[]
  resolved := Array.replicate 124 none
  statics := none }

def pool1 : Array CpInfo := pool [(2, .class_ 4), (1, u "java/lang/Object"), (0, u "<init>"), (0, u "()V"), (0, .methodref 8 9), (0, .class_ 10), (0, .nameAndType 11 12), (0, u "java/lang/Math"), (0, u "min"), (0, u "(II)I"), (0, .methodref 8 14), (0, .nameAndType 15 12), (0, u "max"), (0, .methodref 17 18), (0, .class_ 19), (0, .nameAndType 20 21), (0, u "com/example/treebound/treebound/SortedSetsUnionPinLaw"), (0, u "take"), (0, u "([II)[I"), (0, .methodref 23 24), (0, .class_ 25), (0, .nameAndType 26 27), (0, u "com/example/treebound/treebound/SortedSets"), (0, u "union"), (0, u "([I[I)[I"), (2, u "law"), (0, u "(IIIII)Z")] 5

def k1m0 : Method := { name := "<init>", desc := "()V", sig := { parameters := [], returnType := none }, accessFlags := 2, code := none }
def k1c1 : Code := { maxStack := 3, maxLocals := 28, code := code, exceptionTable := #[], attributes := #[] }
def k1m1 : Method := { name := "law", desc := "(IIIII)Z", sig := { parameters := [.int, .int, .int, .int, .int], returnType := some .boolean }, accessFlags := 9, code := some k1c1 }
def k1c2 : Code := { maxStack := 5, maxLocals := 2, code := method_3_code, exceptionTable := #[], attributes := #[] }
def k1m2 : Method := { name := "take", desc := "([II)[I", sig := { parameters := [(.array .int), .int], returnType := some (.array .int) }, accessFlags := 10, code := some k1c2 }
/-- com/example/treebound/treebound/SortedSetsUnionPinLaw -/
def k1 : Class := { plain "com/example/treebound/treebound/SortedSetsUnionPinLaw" (some 0) with
  accessFlags := 49
  interfaces := #[]
  cf := some (fileOf pool1 17 #[] #[{ accessFlags := 2, nameIndex := 5, descriptorIndex := 6, attributes := #[] }, { accessFlags := 9, nameIndex := 30, descriptorIndex := 31, attributes := #[] }, { accessFlags := 10, nameIndex := 20, descriptorIndex := 21, attributes := #[] }] 49 2 #[] #[])
  fields := #[]
  methods := #[k1m0, k1m1, k1m2]
  instanceTypes := #[]
  staticTypes := #[]
  resolved := Array.replicate 37 none
  statics := none }

def pool2 : Array CpInfo := pool [(1, .class_ 2), (0, u "java/lang/Math"), (1, .class_ 6), (1, u "java/lang/Object"), (0, u "<init>"), (0, u "()V"), (89, .class_ 100), (1, u "java/lang/Math$RandomNumberGeneratorHolder"), (71, u "negativeZeroFloatBits"), (0, u "J"), (2, u "negativeZeroDoubleBits"), (21, u "max"), (2, u "min"), (43, u "$assertionsDisabled"), (0, u "Z"), (88, u "(II)I"), (2, u "twoToTheDoubleScaleDown"), (0, u "D"), (4, u "twoToTheDoubleScaleUp"), (9, u "E"), (3, u "PI"), (2, u "TAU"), (2, u "DEGREES_TO_RADIANS"), (0, u "RADIANS_TO_DEGREES")] 94

def k2m0 : Method := { name := "<init>", desc := "()V", sig := { parameters := [], returnType := none }, accessFlags := 2, code := none }
def k2c1 : Code := { maxStack := 2, maxLocals := 2, code := jdk_29_method_65_code, exceptionTable := #[], attributes := #[] }
def k2m1 : Method := { name := "max", desc := "(II)I", sig := { parameters := [.int, .int], returnType := some .int }, accessFlags := 9, code := some k2c1 }
def k2c2 : Code := { maxStack := 2, maxLocals := 2, code := jdk_29_method_69_code, exceptionTable := #[], attributes := #[] }
def k2m2 : Method := { name := "min", desc := "(II)I", sig := { parameters := [.int, .int], returnType := some .int }, accessFlags := 9, code := some k2c2 }
/-- java/lang/Math -/
def k2 : Class := { plain "java/lang/Math" (some 0) with
  accessFlags := 49
  interfaces := #[]
  cf := some (fileOf pool2 1 #[.nestMembers #[98]] #[{ accessFlags := 2, nameIndex := 7, descriptorIndex := 8, attributes := #[] }, { accessFlags := 9, nameIndex := 198, descriptorIndex := 335, attributes := #[] }, { accessFlags := 9, nameIndex := 201, descriptorIndex := 335, attributes := #[] }] 49 4 #[] #[{ accessFlags := 25, nameIndex := 354, descriptorIndex := 339, attributes := #[] }, { accessFlags := 25, nameIndex := 358, descriptorIndex := 339, attributes := #[] }, { accessFlags := 25, nameIndex := 361, descriptorIndex := 339, attributes := #[] }, { accessFlags := 26, nameIndex := 364, descriptorIndex := 339, attributes := #[] }, { accessFlags := 26, nameIndex := 365, descriptorIndex := 339, attributes := #[] }, { accessFlags := 26, nameIndex := 172, descriptorIndex := 173, attributes := #[] }, { accessFlags := 26, nameIndex := 176, descriptorIndex := 173, attributes := #[] }, { accessFlags := 8, nameIndex := 344, descriptorIndex := 339, attributes := #[] }, { accessFlags := 8, nameIndex := 338, descriptorIndex := 339, attributes := #[] }, { accessFlags := 4120, nameIndex := 245, descriptorIndex := 246, attributes := #[] }])
  fields := #[{ name := "E", type := .double, accessFlags := 25, slot := 0, constantValue := 0 }, { name := "PI", type := .double, accessFlags := 25, slot := 1, constantValue := 0 }, { name := "TAU", type := .double, accessFlags := 25, slot := 2, constantValue := 0 }, { name := "DEGREES_TO_RADIANS", type := .double, accessFlags := 26, slot := 3, constantValue := 0 }, { name := "RADIANS_TO_DEGREES", type := .double, accessFlags := 26, slot := 4, constantValue := 0 }, { name := "negativeZeroFloatBits", type := .long, accessFlags := 26, slot := 5, constantValue := 0 }, { name := "negativeZeroDoubleBits", type := .long, accessFlags := 26, slot := 6, constantValue := 0 }, { name := "twoToTheDoubleScaleUp", type := .double, accessFlags := 8, slot := 7, constantValue := 0 }, { name := "twoToTheDoubleScaleDown", type := .double, accessFlags := 8, slot := 8, constantValue := 0 }, { name := "$assertionsDisabled", type := .boolean, accessFlags := 4120, slot := 9, constantValue := 0 }]
  methods := #[k2m0, k2m1, k2m2]
  instanceTypes := #[]
  staticTypes := #[.double, .double, .double, .double, .double, .long, .long, .double, .double, .boolean]
  resolved := Array.replicate 460 none
  statics := none }

def pool3 : Array CpInfo := pool [(2, .class_ 4), (1, u "java/lang/Object"), (0, u "<init>"), (0, u "()V"), (6, .class_ 14), (0, u "com/example/treebound/treebound/SortedSets"), (8, u "union"), (0, u "([I[I)[I")] 4

def k3m0 : Method := { name := "<init>", desc := "()V", sig := { parameters := [], returnType := none }, accessFlags := 2, code := none }
def k3c1 : Code := { maxStack := 4, maxLocals := 6, code := prog_44_method_4_code, exceptionTable := #[], attributes := #[] }
def k3m1 : Method := { name := "union", desc := "([I[I)[I", sig := { parameters := [(.array .int), (.array .int)], returnType := some (.array .int) }, accessFlags := 8, code := some k3c1 }
/-- com/example/treebound/treebound/SortedSets -/
def k3 : Class := { plain "com/example/treebound/treebound/SortedSets" (some 0) with
  accessFlags := 48
  interfaces := #[]
  cf := some (fileOf pool3 13 #[] #[{ accessFlags := 2, nameIndex := 5, descriptorIndex := 6, attributes := #[] }, { accessFlags := 8, nameIndex := 23, descriptorIndex := 24, attributes := #[] }] 48 2 #[] #[])
  fields := #[]
  methods := #[k3m0, k3m1]
  instanceTypes := #[]
  staticTypes := #[]
  resolved := Array.replicate 29 none
  statics := none }

def pool4 : Array CpInfo := pool [(1, u "java/lang/Cloneable"), (0, .class_ 1), (0, u "java/lang/Object"), (0, .class_ 3)] 3

/-- java/lang/Cloneable -/
def k4 : Class := { plain "java/lang/Cloneable" (some 0) with
  accessFlags := 1537
  interfaces := #[]
  cf := some (fileOf pool4 2 #[] #[] 1537 4 #[] #[])
  fields := #[]
  methods := #[]
  instanceTypes := #[]
  staticTypes := #[]
  resolved := Array.replicate 8 none
  statics := none }

def pool5 : Array CpInfo := pool [(1, u "java/io/Serializable"), (0, .class_ 1), (0, u "java/lang/Object"), (0, .class_ 3)] 3

/-- java/io/Serializable -/
def k5 : Class := { plain "java/io/Serializable" (some 0) with
  accessFlags := 1537
  interfaces := #[]
  cf := some (fileOf pool5 2 #[] #[] 1537 4 #[] #[])
  fields := #[]
  methods := #[]
  instanceTypes := #[]
  staticTypes := #[]
  resolved := Array.replicate 8 none
  statics := none }

/-- the primitive byte -/
def k6 : Class := { plain "byte" none with kind := .primitive 'B', accessFlags := 0x411 }
/-- [B -/
def k7 : Class := { plain "[B" (some 0) with kind := .array 6 .byte, interfaces := #[4, 5], accessFlags := 1041 }

/-- the primitive int -/
def k8 : Class := { plain "int" none with kind := .primitive 'I', accessFlags := 0x411 }
/-- [I -/
def k9 : Class := { plain "[I" (some 0) with kind := .array 8 .int, interfaces := #[4, 5], accessFlags := 1041 }

def heap : Heap := #[]
def classes : Array Class := #[k0, k1, k2, k3, k4, k5, k6, k7, k8, k9]
def interned : List (Array UInt16 × Addr) := []
def slotsUsed : Nat := 0
def theMethod : MethodId := ⟨1, 1⟩
def args0 : Array Value := #[.int 5, .int 6, .int 7, .int 8, .int 9]
def aboutOver (below : List Frame) : State where
  vm := { classes := classes, interned := interned.toArray }
  heap := heap
  slotsUsed := slotsUsed
  threads := #[{ frames := .invoking theMethod args0 :: below }]
def below0 : List Frame := [.native { method := ⟨0, 0⟩, args := #[] }]
def about1 : State := aboutOver below0
def p0 : Program := .bare "" "" ""
def e0 : Env := launch0.env 0 0 0
theorem w_frames : about1.frames = Frame.invoking theMethod args0 :: below0 := rfl
set_option maxRecDepth 65536 in
theorem w_args : argsFit about1.vm theMethod args0 = true := by decide +kernel
set_option maxRecDepth 65536 in
theorem w_heap : heapFits about1 = true := by decide +kernel
set_option maxRecDepth 65536 in
theorem w_runnable : about1.curStatus? = some .runnable := by decide +kernel
set_option maxRecDepth 65536 in
theorem w_alone : about1.alone = true := by decide +kernel
set_option maxRecDepth 65536 in
theorem w_named : about1.methodNamed? x = some theMethod := by decide +kernel
set_option maxRecDepth 65536 in
theorem w_hears : about1.hears theMethod below0 = true := by decide +kernel
set_option maxRecDepth 65536 in
theorem w_ripe : about1.ripe theMethod args0 below0 = true := by decide +kernel
theorem w_running : about1.status = .running := rfl
set_option maxRecDepth 65536 in
theorem w_room : about1.hasRoom e0.platform room_1 = true :=
  launch0.hasRoom_least _ room_1 (by decide +kernel) (by decide +kernel) (by decide +kernel) (by decide +kernel) (by decide +kernel) (by decide +kernel)
theorem allAtoms_all (ts : List Jvm.Cond) (a : Array Jvm.Value) (st : Jvm.State) : (allAtoms ts).before a st = ts.all (fun c => c.before a st) := by
  induction ts with
  | nil => rfl
  | cons c t ih =>
    show (Jvm.Cond.and c (allAtoms t)).before a st = _
    rw [Jvm.Cond.before_and, ih, List.all_cons]
def words1 : List Jvm.Cond := Jvm.Cond.code x code maxLocals ret :: tables_1
/-- a 'code' word, met by the world's own term for the bytes: nothing is compared byte by byte -/
theorem code_word {y : MethodName} {bytes : ByteArray} {mx : Nat} {rt : Option FieldType} {a : Array Value} {s : State} {m : MethodId} {meth : Method} {c : Code} (h1 : s.methodNamed? y = some m) (h2 : s.vm.method? m = some meth) (h3 : meth.code = some c) (h4 : c.code = bytes)
    (h5 : (c.maxLocals == mx && c.exceptionTable.isEmpty && decide (c.maxStack ≤ mostOperands) && decide (meth.sig.returnType = rt) && !meth.locks && decide (parseMethodDescriptor y.desc = some meth.sig)) = true) : (Jvm.Cond.code y bytes mx rt).before a s = true := by
  simp only [Bool.and_eq_true, beq_iff_eq, Bool.not_eq_true', decide_eq_true_eq] at h5
  obtain ⟨⟨⟨⟨⟨g1, g2⟩, g3⟩, g4⟩, g5⟩, g6⟩ := h5
  simp [Cond.before, Cond.holds, Cond.value, h1, h2, h3, h4, g1, g2, g3, g4, g5, g6]
def isCode : Jvm.Cond → Bool
  | .code _ _ _ _ => true
  | _ => false
theorem all_split {L : List Jvm.Cond} {P : Jvm.Cond → Bool} (h1 : L.all (fun c => isCode c || P c) = true) (h2 : ∀ c ∈ L.filter isCode, P c = true) : L.all P = true := by
  refine List.all_eq_true.mpr fun c hc => ?_
  have h := List.all_eq_true.mp h1 c hc
  rcases Bool.eq_false_or_eq_true (isCode c) with hi | hi
  · exact h2 c (List.mem_filter.mpr ⟨hc, hi⟩)
  · simpa [hi] using h
set_option maxRecDepth 65536 in
theorem w_c0 : (Jvm.Cond.code x code maxLocals ret).before args0 about1 = true := code_word (m := ⟨1, 1⟩) (meth := k1m1) (c := k1c1) (by decide +kernel) rfl rfl rfl (by decide +kernel)
set_option maxRecDepth 65536 in
theorem w_c1 : (Jvm.Cond.code ({ cls := "java/lang/Math", name := "min", desc := "(II)I" } : Jvm.MethodName) jdk_29_method_69_code (2 : Nat) (Option.some Jvm.ClassFile.FieldType.int)).before args0 about1 = true := code_word (m := ⟨2, 2⟩) (meth := k2m2) (c := k2c2) (by decide +kernel) rfl rfl rfl (by decide +kernel)
set_option maxRecDepth 65536 in
theorem w_c2 : (Jvm.Cond.code ({ cls := "java/lang/Math", name := "max", desc := "(II)I" } : Jvm.MethodName) jdk_29_method_65_code (2 : Nat) (Option.some Jvm.ClassFile.FieldType.int)).before args0 about1 = true := code_word (m := ⟨2, 1⟩) (meth := k2m1) (c := k2c1) (by decide +kernel) rfl rfl rfl (by decide +kernel)
set_option maxRecDepth 65536 in
theorem w_c3 : (Jvm.Cond.code ({ cls := "com/example/treebound/treebound/SortedSetsUnionPinLaw", name := "take", desc := "([II)[I" } : Jvm.MethodName) method_3_code (2 : Nat) (Option.some (Jvm.ClassFile.FieldType.array Jvm.ClassFile.FieldType.int))).before args0 about1 = true := code_word (m := ⟨1, 2⟩) (meth := k1m2) (c := k1c2) (by decide +kernel) rfl rfl rfl (by decide +kernel)
set_option maxRecDepth 65536 in
theorem w_c4 : (Jvm.Cond.code ({ cls := "com/example/treebound/treebound/SortedSets", name := "union", desc := "([I[I)[I" } : Jvm.MethodName) prog_44_method_4_code (6 : Nat) (Option.some (Jvm.ClassFile.FieldType.array Jvm.ClassFile.FieldType.int))).before args0 about1 = true := code_word (m := ⟨3, 1⟩) (meth := k3m1) (c := k3c1) (by decide +kernel) rfl rfl rfl (by decide +kernel)
def codes1 : List Jvm.Cond := [Jvm.Cond.code x code maxLocals ret, Jvm.Cond.code ({ cls := "java/lang/Math", name := "min", desc := "(II)I" } : Jvm.MethodName) jdk_29_method_69_code (2 : Nat) (Option.some Jvm.ClassFile.FieldType.int), Jvm.Cond.code ({ cls := "java/lang/Math", name := "max", desc := "(II)I" } : Jvm.MethodName) jdk_29_method_65_code (2 : Nat) (Option.some Jvm.ClassFile.FieldType.int), Jvm.Cond.code ({ cls := "com/example/treebound/treebound/SortedSetsUnionPinLaw", name := "take", desc := "([II)[I" } : Jvm.MethodName) method_3_code (2 : Nat) (Option.some (Jvm.ClassFile.FieldType.array Jvm.ClassFile.FieldType.int)), Jvm.Cond.code ({ cls := "com/example/treebound/treebound/SortedSets", name := "union", desc := "([I[I)[I" } : Jvm.MethodName) prog_44_method_4_code (6 : Nat) (Option.some (Jvm.ClassFile.FieldType.array Jvm.ClassFile.FieldType.int))]
set_option maxRecDepth 65536 in
theorem codes_eq : words1.filter isCode = codes1 := rfl
theorem w_codes : ∀ c ∈ words1.filter isCode, c.before args0 about1 = true := by
  rw [codes_eq]
  intro c hc
  simp only [codes1, List.mem_cons, List.not_mem_nil, or_false] at hc
  rcases hc with rfl | rfl | rfl | rfl | rfl
  · exact w_c0
  · exact w_c1
  · exact w_c2
  · exact w_c3
  · exact w_c4
set_option maxRecDepth 65536 in
theorem w_t1 : words1.all (fun c => isCode c || c.before args0 about1) = true := by decide +kernel
theorem w_tables : (allAtoms (Jvm.Cond.code x code maxLocals ret :: tables_1)).before args0 about1 = true := by
  rw [allAtoms_all]
  show words1.all (fun c => c.before args0 about1) = true
  refine all_split ?_ w_codes
  rw [w_t1]
set_option maxRecDepth 65536 in
theorem w_case : (Jvm.Cond.and given_1 narrow_1).before args0 about1 = true := by decide +kernel
theorem w_applies : (headSpec (Jvm.Cond.code x code maxLocals ret :: tables_1) room_1).applies x e0.platform about1 = true :=
  (Spec.applies_iff w_frames).mpr ⟨w_running, w_runnable, w_alone, w_named, w_hears, w_ripe, w_room, w_tables⟩
theorem atStart : AtStart classFile x code maxLocals ret World_1 tables_1 room_1 Calls_1 rest_1 Pre_1 launch0 p0 e0 about1 theMethod args0 below0 :=
  ⟨lists_1, trivial, launch0.admits_env _ _ _, launch0.least_env, fairChoices_fair.cas, fairChoices_fair.clock, w_frames, w_args, w_heap, w_applies, trivial, trivial, w_case⟩
end start1
theorem witness_1 : WitnessClaimed_1 := ⟨start1.p0, start1.e0, start1.about1, start1.theMethod, start1.args0, start1.below0, start1.atStart⟩
end Jvm.Pilot.@@N@@
