import JvmDerived
import JvmDerived.Pilot.@@N@@Statement
import JvmDerived.Pilot.@@N@@Code
set_option linter.unusedVariables false
set_option linter.unusedSimpArgs false
namespace Jvm.RoadKit
open Sem ClassFile Op Lib Jvm.Stand Jvm.Free Jvm.LawKit
section New
variable {p : Program} {l : Launch} {e : Env} {R : Room} {s : State} {m : MethodId} {args : Array Value} {below : List Frame} {meth : Method} {c : Code} {T : State} {locs : List Loc} {cells slots : Nat}
theorem retI (X : Stand p l e R s m args below meth c T locs cells slots) (hx : p.tables.exec = Jvm.exec) {pc : Nat} {Ls : Array Slot} {z : Int32} {rest : List Value} (hret : meth.sig.returnType = some .int) (hd : decode c.code pc = .ok (.ireturn, 1)) {fs : List Frame}
    (hl : ∀ (f : JFrame) (acts : List Action), f.method = m → f.locked = none → f.entered = [] → (doReturn e (T.setTop f) acts (some (.int z))).1 = T.setFrames fs) : Steps p.tables e below (T.setTop (mkF m pc Ls (.int z :: rest))) (T.setFrames fs) := by
  have hm' : T.vm.method? m = some meth := X.method'
  have hn : narrow .int (.int z) = .int z := rfl
  show Steps p.tables e below (T.setTop { method := m, pc := pc, locals := Ls, stack := _ :: rest, locked := none }) _
  jvm_step X.here [X.here.top, hx, hd, hm', hret, hn]
  first | (intro acts; rw [hl _ acts rfl rfl rfl]) | rw [hl _ _ rfl rfl rfl]
  exact Steps.refl _
end New
end Jvm.RoadKit
namespace Jvm.Pilot.@@N@@
open Jvm Jvm.ClassFile Sem Op Lib Jvm.Free Jvm.Stand Jvm.LawKit Jvm.RoadKit Bundle Jvm.Pilot.@@N@@.Jvm.D
/-! my own layer: all goals of a walk have one shape -/
section Own
variable {p : Program} {l : Launch} {e : Env} {R : Room} {s : State} {m : MethodId} {args : Array Value} {below : List Frame} {meth : Method} {c : Code} {T : State} {locs : List Loc} {cells slots : Nat} {Q : Option Value → Heap → List Loc → Prop} {nc ns : Nat} {A B : State}
/-- from A the method comes to its end, with Q of what it returns, of the heap and of the places written -/
def own_Go (p : Program) (e : Env) (below : List Frame) (s : State) (Q : Option Value → Heap → List Loc → Prop) (nc ns : Nat) (A : State) : Prop :=
  ∃ s₂ o, Steps p.tables e below A s₂ ∧ s₂.status = .running ∧ Ended s₂ below o ∧ ∃ v L, o = .returned v ∧ Q v s₂.heap L ∧ FrameEnd s o s₂ L nc ns
theorem own_go (k : ∀ t, Steps p.tables e below B t → Steps p.tables e below A t) (h : own_Go p e below s Q nc ns B) : own_Go p e below s Q nc ns A := by
  obtain ⟨t, o, h1, h2⟩ := h
  exact ⟨t, o, k t h1, h2⟩
theorem own_end (X : Stand p l e R s m args below meth c T locs cells slots) {v : Option Value} (hv : meth.sig.returnType = none → v = none) (hlk : meth.locks = false) (hq : Q v T.heap locs) (hc : cells ≤ nc) (hs : slots ≤ ns)
    (hst : ∀ fs, (∀ (f : JFrame) (acts : List Action), f.method = m → f.locked = none → f.entered = [] → (doReturn e (T.setTop f) acts v).1 = T.setFrames fs) → Steps p.tables e below A (T.setFrames fs)) : own_Go p e below s Q nc ns A := by
  obtain ⟨fs, hr, hrun, hended, hW, hsame⟩ := X.leave (v := v) hv hlk
  exact ⟨_, _, hst fs hr, hrun, hended, v, locs, rfl, hq, ⟨_, rfl⟩, hW, hsame.mono hc hs⟩
theorem own_wide {cells' slots' : Nat} (X : Stand p l e R s m args below meth c T locs cells slots) (hc : cells ≤ cells') (hs : slots ≤ slots') : Stand p l e R s m args below meth c T locs cells' slots' :=
  { X with same := X.same.mono hc hs }
theorem own_lrem {tb : Tables} [Ours tb] {target : State} {g : JFrame} (h : At T m c below) (hx : tb.exec = Jvm.exec) (hg : g.method = m) {x y : Int64} {rest : List Value} (hd : decode c.code g.pc = .ok (.lrem, 1)) (hs : g.stack = .long y :: .long x :: rest) (hy : y ≠ 0)
    (hr : Steps tb e below (T.setTop { g with pc := g.pc + 1, stack := .long (x % y) :: rest }) target) : Steps tb e below (T.setTop g) target :=
  XS.lrem h hx hg hd hs hy (by rw [lrem_mod]; exact hr)
end Own
section Own2
variable {Z s : State} {a0 args : Array Value} {h : Heap} {a b : Addr} {C : String} {c : Cell} {ty : FieldType}
theorem own_selP {y : MethodName} {n : Nat} (hZ : Z.Warmed39 s.vm) (wi : (Jvm.Cond.instantiable y.cls n).before a0 Z = true) (w2 : (Jvm.Cond.instanceMethod y).before a0 Z = true) (w3 : (Jvm.Cond.privateMethod y).before a0 Z = true)
    (hy : y.cls ≠ "java/lang/invoke/MethodHandle" ∧ y.cls ≠ "java/lang/invoke/VarHandle" := by decide) : (Jvm.Cond.selects y.cls y y).before args s = true := by
  have wi' : (Jvm.Cond.instantiable y.cls n).before args s = true := mvT hZ wi
  obtain ⟨c, k, h1, h2, -, h4, -⟩ := Cond.instantiable_spec wi'
  have h5 : k.isInterface = false := by
    cases hk : k.isInterface
    · rfl
    · rw [hk] at h4; simp at h4
  exact selects_self_of_private h1 h2 h5 (Cond.privateMethod_at (mvP hZ w3 (args := #[]))) (mvT hZ w2) hy
theorem own_neA {n : Nat} (F : Exa Z h a C) (wi : (Jvm.Cond.instantiable C n).before a0 Z = true) (G : ∃ c, Arr Z h b c ty) : a ≠ b := by
  obtain ⟨c, G⟩ := G
  exact ne_arr F wi G
end Own2
/-! small naturals as ints -/
theorem own_toI {n : Nat} (h : n < 2147483648) : (Int32.ofNat n).toInt = n := Int32.toInt_ofNat_of_lt h
theorem own_toN {n : Nat} (h : n < 2147483648) : (Int32.ofNat n).toNatClampNeg = n := by
  rw [Int32.toNatClampNeg, own_toI h]; omega
theorem own_one {i : Nat} : Int32.ofNat i + (1 : Int32) = Int32.ofNat (i + 1) := (Int32.ofNat_add i 1).symm
theorem own_inb {j : Int32} {n : Nat} (h0 : ¬ j < 0) (h : j < Int32.ofNat n) (hn : n < 2147483648) : ¬ j < 0 ∧ j.toNatClampNeg < n := by
  refine ⟨h0, ?_⟩
  rw [Int32.lt_iff_toInt_lt, own_toI hn] at h
  rw [Int32.lt_iff_toInt_lt] at h0
  have e0 : (0 : Int32).toInt = 0 := rfl
  rw [Int32.toNatClampNeg]; omega
theorem own_inN {i n : Nat} (h : i < n) (hn : n < 2147483648) : ¬ Int32.ofNat i < 0 ∧ (Int32.ofNat i).toNatClampNeg < n := by
  rw [own_toN (by omega), Int32.lt_iff_toInt_lt, own_toI (by omega)]
  have e0 : (0 : Int32).toInt = 0 := rfl
  omega
theorem own_ofNat_lt {i n : Nat} (h : Int32.ofNat i < Int32.ofNat n) (hn : n < 2147483648) (hi : i ≤ n) : i < n := by
  rw [Int32.lt_iff_toInt_lt, own_toI hn, own_toI (by omega)] at h; omega
theorem own_ofNat_nlt {i n : Nat} (h : ¬ Int32.ofNat i < Int32.ofNat n) (hn : n < 2147483648) (hi : i ≤ n) : n ≤ i := by
  rw [Int32.lt_iff_toInt_lt, own_toI hn, own_toI (by omega)] at h; omega
theorem own_drop (vs : List Int32) {i : Nat} (h : i < vs.length) : vs.drop i = vs.getD i 0 :: vs.drop (i + 1) := by
  rw [List.drop_eq_getElem_cons h, List.getD_eq_getElem?_getD, List.getElem?_eq_getElem h]; rfl
theorem own_ofNat_inj {i n : Nat} (h : Int32.ofNat i = Int32.ofNat n) (hn : n < 2147483648) (hi : i ≤ n) : i = n := by
  have q := congrArg Int32.toInt h
  rw [own_toI hn, own_toI (by omega)] at q; omega

/-! arrays as lists -/
section OwnIA
variable {p : Program} {l : Launch} {e : Env} {R : Room} {s : State} {m : MethodId} {args : Array Value} {below : List Frame} {meth : Method} {c : Code} {T : State} {locs : List Loc} {cells slots : Nat} {Z : State} {a0 : Array Value} {h h' : Heap} {a b : Addr} {ws : List Addr} {sl : Nat} {v : Value} {vs : List Int32}
def own_IA (Z : State) (h : Heap) (a : Addr) (vs : List Int32) : Prop := ∃ c : Cell, Arr Z h a c .int ∧ c.slots.toList = vs.map Value.int ∧ vs.length < 2147483648
theorem own_IA.lt (F : own_IA Z h a vs) : a < h.size := by obtain ⟨c, A, -⟩ := F; exact A.lt
theorem own_IA.arr (F : own_IA Z h a vs) : ∃ c, Arr Z h a c .int := by obtain ⟨c, A, -⟩ := F; exact ⟨c, A⟩
theorem own_IA.ext (F : own_IA Z h a vs) (E : Ext h h') : own_IA Z h' a vs := by obtain ⟨c, A, r⟩ := F; exact ⟨c, A.ext E, r⟩
theorem own_IA.other (F : own_IA Z h b vs) (W : Wr h h' a sl v) (q : b ≠ a) : own_IA Z h' b vs := by obtain ⟨c, A, r⟩ := F; exact ⟨c, A.other W q, r⟩
theorem own_IA.keep (F : own_IA Z h a vs) (K : Keep h h' ws) (q : a ∉ ws) : own_IA Z h' a vs := by obtain ⟨c, A, r⟩ := F; exact ⟨c, ⟨K.2.1 a c A.1 q, A.2⟩, r⟩
theorem own_IA.cong {vs' : List Int32} (F : own_IA Z h a vs) (q : vs = vs') : own_IA Z h a vs' := q ▸ F
theorem own_IA.small (F : own_IA Z h a vs) : vs.length < 2147483648 := by obtain ⟨c, A, q, r⟩ := F; exact r
theorem own_IA.new {k : ClassId} {n : Int32} (A : Arr Z h a (newA k .int n) .int) (q : ¬ n < 0) : own_IA Z h a (List.replicate n.toNatClampNeg 0) := by
  refine ⟨_, A, ?_, ?_⟩
  · simp [newA, defaultValue]
  · rw [List.length_replicate]; exact (back32 q).2
theorem own_IA_in {c : Cell} {j : Int32} (S : c.slots.toList = vs.map Value.int) (hj : ¬ j < 0 ∧ j.toNatClampNeg < vs.length) : ¬ (j < 0 ∨ c.slots.size ≤ j.toNatClampNeg) := by
  have e := congrArg List.length S
  rw [List.length_map, Array.length_toList] at e
  rintro (q | q)
  · exact hj.1 q
  · have := hj.2; omega
/-- the load -/
theorem own_ldIA (X : Stand p l e R s m args below meth c T locs cells slots) (hx : p.tables.exec = Jvm.exec) (hZ : Z.Warmed39 s.vm) (eT : T.heap = h) (A : own_IA Z h a vs) {j : Int32} (hj : ¬ j < 0 ∧ j.toNatClampNeg < vs.length)
    {g : JFrame} (hg : g.method = m) {rest : List Value} (hs : g.stack = .int j :: .ref a :: rest) (hd : decode c.code g.pc = .ok (.iaload, 1)) {target : State}
    (hr : Steps p.tables e below (T.setTop { g with pc := g.pc + 1, stack := Value.int (vs.getD j.toNatClampNeg 0) :: rest }) target) : Steps p.tables e below (T.setTop g) target := by
  obtain ⟨cl, Ar, S, -⟩ := A
  refine X.iaload hx (j := j) (v := Value.int (vs.getD j.toNatClampNeg 0)) (by rw [eT]; exact Ar.1) (State.isArrayOf_alike hZ.alike Ar.2.1) Ar.2.2 (own_IA_in S hj) ?_ (g := g) hg hs hd _ hr
  rw [← Array.getElem?_toList, S, List.getElem?_map, List.getD_eq_getElem?_getD, List.getElem?_eq_getElem hj.2]
  rfl
/-- the length -/
theorem own_lenIA (X : Stand p l e R s m args below meth c T locs cells slots) (hx : p.tables.exec = Jvm.exec) (hZ : Z.Warmed39 s.vm) (eT : T.heap = h) (A : own_IA Z h a vs)
    {g : JFrame} (hg : g.method = m) {rest : List Value} (hs : g.stack = .ref a :: rest) (hd : decode c.code g.pc = .ok (.arraylength, 1)) {target : State}
    (hr : Steps p.tables e below (T.setTop { g with pc := g.pc + 1, stack := .int (Int32.ofNat vs.length) :: rest }) target) : Steps p.tables e below (T.setTop g) target := by
  obtain ⟨cl, Ar, S, -⟩ := A
  refine X.arraylength hx (by rw [eT]; exact Ar.1) (State.isArrayOf_alike hZ.alike Ar.2.1) (g := g) hg hs hd _ ?_
  have e := congrArg List.length S
  rw [List.length_map, Array.length_toList] at e
  rw [e]; exact hr
/-- the store -/
theorem own_stIA (X : Stand p l e R s m args below meth c T locs cells slots) (hx : p.tables.exec = Jvm.exec) (hZ : Z.Warmed39 s.vm) (eT : T.heap = h) (A : own_IA Z h a vs) {j : Int32} {x : Int32} (hj : ¬ j < 0 ∧ j.toNatClampNeg < vs.length)
    {g : JFrame} (hg : g.method = m) {rest : List Value} (hs : g.stack = Value.int x :: .int j :: .ref a :: rest) (hd : decode c.code g.pc = .ok (.iastore, 1)) :
    ∃ T' h', Stand p l e R s m args below meth c T' (locs ++ [⟨a, j.toNatClampNeg⟩]) cells slots ∧ T'.heap = h' ∧ Wr h h' a j.toNatClampNeg (Value.int x) ∧ own_IA Z h' a (vs.set j.toNatClampNeg x) ∧
      ∀ target, Steps p.tables e below (T'.setTop { g with pc := g.pc + 1, stack := rest }) target → Steps p.tables e below (T.setTop g) target := by
  obtain ⟨cl, Ar, S, B⟩ := A
  obtain ⟨T', h', X', e', W', st'⟩ := stI X hx hZ eT Ar (own_IA_in S hj) (g := g) hg hs hd
  refine ⟨T', h', X', e', W', ⟨_, Ar.same W', ?_, ?_⟩, st'⟩
  · simp [Cell.setSlot, S]
  · rw [List.length_set]; exact B
theorem own_ldIAn (X : Stand p l e R s m args below meth c T locs cells slots) (hx : p.tables.exec = Jvm.exec) (hZ : Z.Warmed39 s.vm) (eT : T.heap = h) (A : own_IA Z h a vs) {i : Nat} (hi : i < vs.length)
    {g : JFrame} (hg : g.method = m) {rest : List Value} (hs : g.stack = .int (Int32.ofNat i) :: .ref a :: rest) (hd : decode c.code g.pc = .ok (.iaload, 1)) {target : State}
    (hr : Steps p.tables e below (T.setTop { g with pc := g.pc + 1, stack := Value.int (vs.getD i 0) :: rest }) target) : Steps p.tables e below (T.setTop g) target := by
  have q := A.small
  refine own_ldIA X hx hZ eT A (own_inN hi q) hg hs hd ?_
  rw [own_toN (Nat.lt_trans hi q)]; exact hr
theorem own_stIAn (X : Stand p l e R s m args below meth c T locs cells slots) (hx : p.tables.exec = Jvm.exec) (hZ : Z.Warmed39 s.vm) (eT : T.heap = h) (A : own_IA Z h a vs) {i : Nat} {x : Int32} (hi : i < vs.length)
    {g : JFrame} (hg : g.method = m) {rest : List Value} (hs : g.stack = Value.int x :: .int (Int32.ofNat i) :: .ref a :: rest) (hd : decode c.code g.pc = .ok (.iastore, 1)) :
    ∃ T' h', Stand p l e R s m args below meth c T' (locs ++ [⟨a, i⟩]) cells slots ∧ T'.heap = h' ∧ Wr h h' a i (Value.int x) ∧ own_IA Z h' a (vs.set i x) ∧
      ∀ target, Steps p.tables e below (T'.setTop { g with pc := g.pc + 1, stack := rest }) target → Steps p.tables e below (T.setTop g) target := by
  have q := A.small
  have r := own_stIA X hx hZ eT A (x := x) (own_inN hi q) hg hs hd
  rw [own_toN (Nat.lt_trans hi q)] at r
  exact r
/-- a new one -/
theorem own_newIA (X : Stand p l e R s m args below meth c T locs cells slots) (hx : p.tables.exec = Jvm.exec) (hZ : Z.Warmed39 s.vm) (w : (Jvm.Cond.arrayClass .int).before a0 Z = true) (eT : T.heap = h) {g : JFrame} (hg : g.method = m) (hd : decode c.code g.pc = .ok (.newarray .int, 2)) {n : Int32} {rest : List Value} (hs : g.stack = .int n :: rest)
    (hn : ¬ n < 0) {cap : Nat} (hcap : n.toNatClampNeg ≤ cap) (hb : cap * 8 ≤ 536870912) (hc : cells + 1 ≤ R.cells) (hl : slots + cap ≤ R.slots) :
    ∃ T' h', Stand p l e R s m args below meth c T' locs (cells + 1) (slots + cap) ∧ T'.heap = h' ∧ Ext h h' ∧ own_IA Z h' h.size (List.replicate n.toNatClampNeg 0) ∧ Exa Z h' h.size "[I" ∧
      ∀ target, Steps p.tables e below (T'.setTop { g with pc := g.pc + 2, stack := .ref h.size :: rest }) target → Steps p.tables e below (T.setTop g) target := by
  obtain ⟨T', h', k, X', e', E', A', F', st'⟩ := newPE X hx hZ (aty := .int) w eT hg hd hs hn hcap hb hc hl (ad := "[I") (by decide)
  exact ⟨T', h', X', e', E', own_IA.new A' hn, F', st'⟩
end OwnIA

/-! int arrays: copies -/
section OwnC
variable {p : Program} {l : Launch} {e : Env} {R : Room} {s : State} {m : MethodId} {args : Array Value} {below : List Frame} {meth : Method} {c : Code} {T : State} {locs : List Loc} {cells slots : Nat} {Z : State} {a0 : Array Value} {h h' : Heap} {a b : Addr} {vs ud : List Int32}
theorem own_mapD (vs : List Int32) (k : Nat) : (vs.map Value.int).getD k (.int 0) = .int (vs.getD k 0) := by
  rw [List.getD_eq_getElem?_getD, List.getD_eq_getElem?_getD, List.getElem?_map]
  cases vs[k]? <;> rfl
theorem own_IA.arv (F : own_IA Z h a vs) : ∃ k, Arv Z h a k .int (Int32.ofNat vs.length) (vs.map Value.int) (.int 0) := by
  obtain ⟨c, A, S, q⟩ := F
  have e := congrArg List.length S
  rw [List.length_map, Array.length_toList] at e
  refine ⟨c.cls, c, A, rfl, ?_, ?_, fun k hk => ?_, fun i hi => ?_⟩
  · rw [own_toN q]; exact e
  · rw [Int32.lt_iff_toInt_lt, own_toI q]
    have e0 : (0 : Int32).toInt = 0 := rfl
    omega
  · rw [own_mapD, ← Array.getElem?_toList, S, List.getElem?_map, List.getD_eq_getElem?_getD, List.getElem?_eq_getElem (by omega)]
    rfl
  · rw [own_mapD]; rfl
theorem own_IA.ofArv {k : ClassId} {z : Int32} (F : Arv Z h a k .int z (vs.map Value.int) (.int 0)) (hz : z.toNatClampNeg = vs.length) : own_IA Z h a vs := by
  obtain ⟨c, A, -, S, q, H, -⟩ := F
  refine ⟨c, A, ?_, ?_⟩
  · apply List.ext_getElem?
    intro i
    rw [Array.getElem?_toList, List.getElem?_map]
    by_cases hi : i < c.slots.size
    · rw [H i hi, own_mapD, List.getD_eq_getElem?_getD, List.getElem?_eq_getElem (by omega)]
      rfl
    · rw [Array.getElem?_eq_none (by omega), List.getElem?_eq_none (by omega)]
      rfl
  · rw [← hz]; exact (back32 q).2
/-- System.arraycopy, from the start to the start -/
theorem own_cpIA (X : Stand p l e R s m args below meth c T locs cells slots) (hx : p.tables.exec = Jvm.exec) (hZ : Z.Warmed39 s.vm) {own : String} {index : Nat} (hown : s.vm.findClass own = some m.cls)
    (w1 : (Jvm.Cond.methodLink own index Jvm.Stand.acN).before a0 Z = true) (w2 : (Jvm.Cond.native Jvm.Stand.acN).before a0 Z = true) (w3 : (Jvm.Cond.static Jvm.Stand.acN).before a0 Z = true) (w4 : (Jvm.Cond.initialized "java/lang/System").before a0 Z = true) (eT : T.heap = h)
    (A : own_IA Z h a vs) (B : own_IA Z h b ud) {nn : Int32} (h3 : ¬ nn < 0) (h4 : nn.toNatClampNeg ≤ vs.length) (h5 : nn.toNatClampNeg ≤ ud.length) {n0 : Nat} (N : Fr n0 locs) (ge : n0 ≤ b)
    {g : JFrame} (hg : g.method = m) (hsize : g.locals.size = c.maxLocals) {rest : List Value} (hs : g.stack = .int nn :: .int (0 : Int32) :: .ref b :: .int (0 : Int32) :: .ref a :: rest) (hd : decode c.code g.pc = .ok (.invokestatic index, 3))
    (hf : 1 ≤ R.frames) {W : Nat} (hW : 2 * g.monitorRoom + (rest.map fun v => v.category).sum ≤ W) (hlo : W + (nativeFrameWords "java/lang/System" "arraycopy" 5 + 11) ≤ R.locals) :
    ∃ T' h' L, Stand p l e R s m args below meth c T' L cells slots ∧ T'.heap = h' ∧ Fr n0 L ∧ Keep h h' [b] ∧ own_IA Z h' b (vs.take nn.toNatClampNeg ++ ud.drop nn.toNatClampNeg) ∧
      ∀ target, Steps p.tables e below (T'.setTop { g with pc := g.pc + 3, stack := rest }) target → Steps p.tables e below (T.setTop g) target := by
  obtain ⟨ka, Aa⟩ := A.arv
  obtain ⟨kb, Ab⟩ := B.arv
  have z0 : (0 : Int32).toNatClampNeg = 0 := rfl
  obtain ⟨T', h', L, X', e', N', K', A', st'⟩ := cpA X hx hZ hown w1 w2 w3 w4 eT Aa Ab (Or.inl ⟨rfl, rfl⟩) (sp := 0) (dp := 0) (nn := nn) (by decide) (by decide) h3 (by rw [own_toN A.small, z0]; omega) (by rw [own_toN B.small, z0]; omega) rfl (by rw [List.length_map, z0]; omega) N ge hg hsize hs hd hf hW hlo
  refine ⟨T', h', L, X', e', N', K', ?_, st'⟩
  refine own_IA.ofArv (k := kb) (z := Int32.ofNat ud.length) ?_ (by rw [own_toN B.small, List.length_append, List.length_take, List.length_drop]; omega)
  have e : (List.map Value.int (vs.take nn.toNatClampNeg ++ ud.drop nn.toNatClampNeg)) = List.take (0 : Int32).toNatClampNeg (List.map Value.int ud) ++ (List.range nn.toNatClampNeg).map (fun i => (List.map Value.int vs).getD ((0 : Int32).toNatClampNeg + i) (.int 0)) ++ List.drop ((0 : Int32).toNatClampNeg + nn.toNatClampNeg) (List.map Value.int ud) := by
    rw [z0, List.take_zero, List.nil_append, Nat.zero_add, List.map_append, List.map_drop]
    congr 1
    apply List.ext_getElem?
    intro i
    rw [List.getElem?_map, List.getElem?_map]
    by_cases hi : i < nn.toNatClampNeg
    · rw [List.getElem?_take_of_lt hi, List.getElem?_range hi, List.getElem?_eq_getElem (by omega)]
      simp only [Option.map_some, Nat.zero_add, own_mapD]
      rw [List.getD_eq_getElem?_getD, List.getElem?_eq_getElem (by omega)]
      rfl
    · rw [List.getElem?_eq_none (by rw [List.length_take]; omega), List.getElem?_eq_none (by rw [List.length_range]; omega)]
      rfl
  rw [e]; exact A'
/-- clone -/
theorem own_cloneIA (X : Stand p l e R s m args below meth c T locs cells slots) (hx : p.tables.exec = Jvm.exec) (hZ : Z.Warmed39 s.vm) {own : String} {index : Nat} (hown : s.vm.findClass own = some m.cls)
    (w1 : (Jvm.Cond.methodLink own index ⟨"[I", "clone", "()Ljava/lang/Object;"⟩).before a0 Z = true) (w2 : (Jvm.Cond.sameMethod "[I" "java/lang/Object" "clone" "()Ljava/lang/Object;").before a0 Z = true) (w3 : (Jvm.Cond.native ⟨"java/lang/Object", "clone", "()Ljava/lang/Object;"⟩).before a0 Z = true)
    (w4 : (Jvm.Cond.instanceMethod ⟨"java/lang/Object", "clone", "()Ljava/lang/Object;"⟩).before a0 Z = true) (w5 : (Jvm.Cond.selects "[I" ⟨"[I", "clone", "()Ljava/lang/Object;"⟩ ⟨"java/lang/Object", "clone", "()Ljava/lang/Object;"⟩).before a0 Z = true) (w6 : (Jvm.Cond.castable "[I" "java/lang/Cloneable").before a0 Z = true)
    (eT : T.heap = h) (A : own_IA Z h a vs) (E : Exa Z h a "[I") {g : JFrame} (hg : g.method = m) (hsize : g.locals.size = c.maxLocals) {rest : List Value} (hst : g.stack = .ref a :: rest) (hd : decode c.code g.pc = .ok (.invokevirtual index, 3))
    (hf : 1 ≤ R.frames) {W cap : Nat} (hW : 2 * g.monitorRoom + (rest.map fun v => v.category).sum ≤ W) (hl : W + 14 ≤ R.locals) (hcap : vs.length ≤ cap) (hc : cells + 1 ≤ R.cells) (hsl : slots + cap ≤ R.slots) :
    ∃ T' h', Stand p l e R s m args below meth c T' locs (cells + 1) (slots + cap) ∧ T'.heap = h' ∧ Ext h h' ∧ own_IA Z h' h.size vs ∧ Exa Z h' h.size "[I" ∧
      ∀ target, Steps p.tables e below (T'.setTop { g with pc := g.pc + 3, stack := .ref h.size :: rest }) target → Steps p.tables e below (T.setTop g) target := by
  obtain ⟨ka, Aa⟩ := A.arv
  obtain ⟨T', h', X', e', ex, A', E', st⟩ := cloneH X hx hZ hown w1 w2 w3 w4 w5 w6 eT Aa.arh E hg hsize hst hd hf hW hl (cap := cap) (by rw [own_toN A.small]; exact hcap) hc hsl
  exact ⟨T', h', X', e', ex, own_IA.ofArv (k := ka) (z := Int32.ofNat vs.length) A' (by rw [own_toN A.small]), E', st⟩
end OwnC
theorem own_mvNM {Z s : State} {a0 args : Array Value} {own host : String} {index : Nat} {y : MethodName} (hZ : Z.Warmed39 s.vm) (w : (Jvm.Cond.methodLinkNest own index y host).before a0 Z = true) : (Jvm.Cond.methodLinkNest own index y host).before args s = true := (Cond.methodLinkNest_wide hZ w :)

def own_ci (p1 : Int32) (p2 : Int32) : Int32 := p1
def Q_rm11 (Z : State) (p1 : Int32) (p2 : Int32) (h0 : Heap) (n0 : Nat) (v : Option Value) (h : Heap) (L : List Loc) : Prop := v = some (.int (own_ci p1 p2)) ∧ Fr n0 L ∧ h = h0
theorem own_pn0 : plainName "jdk/internal/util/Preconditions" = true := by first | (simp [plainName, overriddenIn]; done) | decide +kernel
theorem d11_0 : decode jdk_41_method_11_code 0 = .ok (.iload_n 0, 1) := by decide +kernel
theorem d11_1 : decode jdk_41_method_11_code 1 = .ok (.ifCond .lt 8, 3) := by decide +kernel
theorem d11_4 : decode jdk_41_method_11_code 4 = .ok (.iload_n 0, 1) := by decide +kernel
theorem d11_5 : decode jdk_41_method_11_code 5 = .ok (.iload_n 1, 1) := by decide +kernel
theorem d11_6 : decode jdk_41_method_11_code 6 = .ok (.if_icmp .lt 10, 3) := by decide +kernel
theorem d11_16 : decode jdk_41_method_11_code 16 = .ok (.iload_n 0, 1) := by decide +kernel
theorem d11_17 : decode jdk_41_method_11_code 17 = .ok (.ireturn, 1) := by decide +kernel
set_option maxRecDepth 65536 in
set_option maxHeartbeats 40000000 in
theorem rm11 (l : Launch) (Z : State) (a0 : Array Value) (hw : ∀ d ∈ tables_1, d.before a0 Z = true) (ws : List Jvm.Cond) (p1 : Int32) (p2 : Int32) (h0 : Heap) (n0 : Nat) (Z0 : n0 ≤ h0.size) (q1 : ¬ p1 < 0) (q2 : p1 < p2) :
    MetFree l (⟨"jdk/internal/util/Preconditions", "checkIndex", "(IILjava/util/function/BiFunction;)I"⟩ : MethodName) (head1 (Jvm.Cond.code (⟨"jdk/internal/util/Preconditions", "checkIndex", "(IILjava/util/function/BiFunction;)I"⟩ : MethodName) jdk_41_method_11_code 3 (some .int) :: ws) ({ frames := 0, cells := 0, slots := 0, locals := 0 } : Room)) (fun aa U => aa = #[(.int p1), (.int p2), .null] ∧ Z.Warmed39 U.vm ∧ U.heap = h0) (fun _ _ _ _ _ => True) (fun _ U o U' => ∃ v L, o = .returned v ∧ Q_rm11 Z p1 p2 h0 n0 v U'.heap L ∧ FrameEnd U o U' L ({ frames := 0, cells := 0, slots := 0, locals := 0 } : Room).cells ({ frames := 0, cells := 0, slots := 0, locals := 0 } : Room).slots) := by
  refine MetFree.of_bodySF (plainFor_of_name own_pn0) hisR ?_
  intro p e s m args below meth c s₁ Bd hml0 hP hK
  obtain ⟨rfl, hZ, hh⟩ := hP
  have hx := Bd.exec
  have hby := Bd.bytes
  have hml : c.maxLocals = 3 := hml0
  have hlk : meth.locks = false := BodyLoose.notSynchronized Bd
  have hown : s.vm.findClass "jdk/internal/util/Preconditions" = some m.cls := findClass_of_methodNamed Bd.named
  have hnm := (name_of_methodNamed Bd.named Bd.method).1
  have X0 : Stand p l e ({ frames := 0, cells := 0, slots := 0, locals := 0 } : Room) s m #[(.int p1), (.int p2), .null] below meth c s₁ [] 0 0 := Stand.of_body Bd
  have e0 : s₁.heap = h0 := by rw [← hh, Bd.state]; rfl
  have N0 := Fr.nil n0
  show own_Go p e below s (Q_rm11 Z p1 p2 h0 n0) 0 0 (s₁.setTop (entryFrame m #[(.int p1), (.int p2), .null] 3))
  refine own_go (B := s₁.setTop (mkF m 0 #[.val (.int p1), .val (.int p2), .val .null] [])) (fun tgt cont => (XT.entry rfl).trans cont) ?_
  refine own_go (B := s₁.setTop (mkF m 17 #[.val (.int p1), .val (.int p2), .val .null] [(.int p1)])) (fun tgt cont => ?_) ?_
  · refine XS.iloadN X0.here hx rfl (hb hby d11_0) rfl ?_
    refine XS.ifNo X0.here hx rfl (hb hby d11_1) rfl (XT.i0_lt_f q1) ?_
    refine XS.iloadN X0.here hx rfl (hb hby d11_4) rfl ?_
    refine XS.iloadN X0.here hx rfl (hb hby d11_5) rfl ?_
    refine XS.icmpYes X0.here hx rfl (pc0 := 6) (pc' := 16) rfl (hb hby d11_6) rfl (XT.ii_lt_t q2) (by decide) (by decide) ?_
    refine XS.iloadN X0.here hx rfl (hb hby d11_16) rfl ?_
    exact cont
  refine own_end X0 (v := some (.int p1)) (fun h => by rw [Bd.returns] at h; cases h) hlk ?_ (by decide) (by decide) (fun fs hl => retI X0 hx Bd.returns (hb hby d11_17) hl)
  exact ⟨(by unfold own_ci; exact rfl), N0, e0⟩
def own_cx (p1 : Int32) (p2 : Int32) : Int32 := (own_ci p1 p2)
def Q_rm10 (Z : State) (p1 : Int32) (p2 : Int32) (h0 : Heap) (n0 : Nat) (v : Option Value) (h : Heap) (L : List Loc) : Prop := v = some (.int (own_cx p1 p2)) ∧ Fr n0 L ∧ h = h0
theorem own_pn1 : plainName "java/util/Objects" = true := by first | (simp [plainName, overriddenIn]; done) | decide +kernel
theorem own_pd0 : parseMethodDescriptor "(IILjava/util/function/BiFunction;)I" = some ⟨[.int, .int, (.object "java/util/function/BiFunction")], some .int⟩ := by decide +kernel
theorem d10_0 : decode jdk_31_method_17_code 0 = .ok (.iload_n 0, 1) := by decide +kernel
theorem d10_1 : decode jdk_31_method_17_code 1 = .ok (.iload_n 1, 1) := by decide +kernel
theorem d10_2 : decode jdk_31_method_17_code 2 = .ok (.aconst_null, 1) := by decide +kernel
theorem d10_3 : decode jdk_31_method_17_code 3 = .ok (.invokestatic 105, 3) := by decide +kernel
theorem d10_6 : decode jdk_31_method_17_code 6 = .ok (.ireturn, 1) := by decide +kernel
set_option maxRecDepth 65536 in
set_option maxHeartbeats 40000000 in
theorem rm10 (l : Launch) (Z : State) (a0 : Array Value) (hw : ∀ d ∈ tables_1, d.before a0 Z = true) (ws : List Jvm.Cond) (p1 : Int32) (p2 : Int32) (h0 : Heap) (n0 : Nat) (Z0 : n0 ≤ h0.size) (q1 : ¬ p1 < 0) (q2 : p1 < p2) :
    MetFree l (⟨"java/util/Objects", "checkIndex", "(II)I"⟩ : MethodName) (head1 (Jvm.Cond.code (⟨"java/util/Objects", "checkIndex", "(II)I"⟩ : MethodName) jdk_31_method_17_code 2 (some .int) :: ws) ({ frames := 1, cells := 0, slots := 0, locals := 14 } : Room)) (fun aa U => aa = #[(.int p1), (.int p2)] ∧ Z.Warmed39 U.vm ∧ U.heap = h0) (fun _ _ _ _ _ => True) (fun _ U o U' => ∃ v L, o = .returned v ∧ Q_rm10 Z p1 p2 h0 n0 v U'.heap L ∧ FrameEnd U o U' L ({ frames := 1, cells := 0, slots := 0, locals := 14 } : Room).cells ({ frames := 1, cells := 0, slots := 0, locals := 14 } : Room).slots) := by
  refine MetFree.of_bodySF (plainFor_of_name own_pn1) hisR ?_
  intro p e s m args below meth c s₁ Bd hml0 hP hK
  obtain ⟨rfl, hZ, hh⟩ := hP
  have hx := Bd.exec
  have hby := Bd.bytes
  have hml : c.maxLocals = 2 := hml0
  have hlk : meth.locks = false := BodyLoose.notSynchronized Bd
  have hown : s.vm.findClass "java/util/Objects" = some m.cls := findClass_of_methodNamed Bd.named
  have hnm := (name_of_methodNamed Bd.named Bd.method).1
  have X0 : Stand p l e ({ frames := 1, cells := 0, slots := 0, locals := 14 } : Room) s m #[(.int p1), (.int p2)] below meth c s₁ [] 0 0 := Stand.of_body Bd
  have e0 : s₁.heap = h0 := by rw [← hh, Bd.state]; rfl
  have N0 := Fr.nil n0
  show own_Go p e below s (Q_rm10 Z p1 p2 h0 n0) 0 0 (s₁.setTop (entryFrame m #[(.int p1), (.int p2)] 2))
  refine own_go (B := s₁.setTop (mkF m 0 #[.val (.int p1), .val (.int p2)] [])) (fun tgt cont => (XT.entry rfl).trans cont) ?_
  refine own_go (B := s₁.setTop (mkF m 3 #[.val (.int p1), .val (.int p2)] [.null, (.int p2), (.int p1)])) (fun tgt cont => ?_) ?_
  · refine XS.iloadN X0.here hx rfl (hb hby d10_0) rfl ?_
    refine XS.iloadN X0.here hx rfl (hb hby d10_1) rfl ?_
    refine XS.aconstNull X0.here hx rfl (hb hby d10_2) ?_
    exact cont
  -- pc 3: Preconditions.checkIndex
  obtain ⟨_, _, ⟨T1, L1, k1, n1⟩, -, X1, ⟨Lc1, hQ1, l1, y1, z1⟩, st1⟩ := Jvm.LawKit.callS X0 hx (y := (⟨"jdk/internal/util/Preconditions", "checkIndex", "(IILjava/util/function/BiFunction;)I"⟩ : MethodName)) hown (mvT hZ (hw _ (List.mem_of_getElem? (i := 81) rfl))) (mvT hZ (hw _ (List.mem_of_getElem? (i := 82) rfl))) (mvT hZ (hw _ (List.mem_of_getElem? (i := 83) rfl))) (mvT hZ (hw _ (List.mem_of_getElem? (i := 84) rfl))) (by decide) (backOf (W := 0) (rm11 l Z a0 hw [] p1 p2 h0 n0 Z0 q1 q2) hZ (hw _ (List.mem_of_getElem? (i := 84) rfl)) (hw _ (List.mem_of_getElem? (i := 83) rfl)) (by decide) (by decide)) (g := (mkF m 3 #[.val (.int p1), .val (.int p2)] [.null, (.int p2), (.int p1)])) rfl (by rw [hml]; rfl) (argsL := [(.int p1), (.int p2), .null]) (rest := []) (lenOf own_pd0 rfl) rfl (by show 2 * 0 + _ ≤ _; exact Nat.le_of_eq rfl) (hb hby d10_3) (fun _ _ => ⟨rfl, e0, (by decide : 0 + 0 ≤ _), (by decide : 0 + 0 ≤ _)⟩)
  dsimp only [Pt.U, Pt.locs, Pt.cells, Pt.slots] at X1 l1 y1 z1 st1 hQ1
  subst l1 y1 z1
  obtain ⟨rfl, N1q, e1⟩ := hQ1
  have N1 := Fr.app N0 N1q
  refine own_go (fun tgt cont => st1 tgt cont) ?_
  show own_Go p e below s (Q_rm10 Z p1 p2 h0 n0) 0 0 (T1.setTop (mkF m 6 #[.val (.int p1), .val (.int p2)] [(.int (own_ci p1 p2))]))
  refine own_end X1 (v := some (.int (own_ci p1 p2))) (fun h => by rw [Bd.returns] at h; cases h) hlk ?_ (by decide) (by decide) (fun fs hl => retI X1 hx Bd.returns (hb hby d10_6) hl)
  exact ⟨(by unfold own_cx; exact rfl), N1, e1⟩
def own_min (p1 : Int32) (p2 : Int32) : Int32 := if p2 < p1 then p2 else p1
def Q_rm5 (Z : State) (p1 : Int32) (p2 : Int32) (h0 : Heap) (n0 : Nat) (v : Option Value) (h : Heap) (L : List Loc) : Prop := v = some (.int (own_min p1 p2)) ∧ Fr n0 L ∧ h = h0
theorem d5_0 : decode jdk_29_method_69_code 0 = .ok (.iload_n 0, 1) := by decide +kernel
theorem d5_1 : decode jdk_29_method_69_code 1 = .ok (.iload_n 1, 1) := by decide +kernel
theorem d5_2 : decode jdk_29_method_69_code 2 = .ok (.if_icmp .gt 7, 3) := by decide +kernel
theorem d5_5 : decode jdk_29_method_69_code 5 = .ok (.iload_n 0, 1) := by decide +kernel
theorem d5_6 : decode jdk_29_method_69_code 6 = .ok (.goto 4, 3) := by decide +kernel
theorem d5_9 : decode jdk_29_method_69_code 9 = .ok (.iload_n 1, 1) := by decide +kernel
theorem d5_10 : decode jdk_29_method_69_code 10 = .ok (.ireturn, 1) := by decide +kernel
set_option maxRecDepth 65536 in
set_option maxHeartbeats 40000000 in
theorem rm5 (l : Launch) (Z : State) (a0 : Array Value) (hw : ∀ d ∈ tables_1, d.before a0 Z = true) (ws : List Jvm.Cond) (p1 : Int32) (p2 : Int32) (h0 : Heap) (n0 : Nat) (Z0 : n0 ≤ h0.size)  :
    MetFree l (⟨"java/lang/Math", "min", "(II)I"⟩ : MethodName) (head1 (Jvm.Cond.code (⟨"java/lang/Math", "min", "(II)I"⟩ : MethodName) jdk_29_method_69_code 2 (some .int) :: ws) ({ frames := 0, cells := 0, slots := 0, locals := 0 } : Room)) (fun aa U => aa = #[(.int p1), (.int p2)] ∧ Z.Warmed39 U.vm ∧ U.heap = h0) (fun _ _ _ _ _ => True) (fun _ U o U' => ∃ v L, o = .returned v ∧ Q_rm5 Z p1 p2 h0 n0 v U'.heap L ∧ FrameEnd U o U' L ({ frames := 0, cells := 0, slots := 0, locals := 0 } : Room).cells ({ frames := 0, cells := 0, slots := 0, locals := 0 } : Room).slots) := by
  refine MetFree.of_bodySF (Jvm.Free.JP.mathPlain rfl (by decide +kernel)) hisR ?_
  intro p e s m args below meth c s₁ Bd hml0 hP hK
  obtain ⟨rfl, hZ, hh⟩ := hP
  have hx := Bd.exec
  have hby := Bd.bytes
  have hml : c.maxLocals = 2 := hml0
  have hlk : meth.locks = false := BodyLoose.notSynchronized Bd
  have hown : s.vm.findClass "java/lang/Math" = some m.cls := findClass_of_methodNamed Bd.named
  have hnm := (name_of_methodNamed Bd.named Bd.method).1
  have X0 : Stand p l e ({ frames := 0, cells := 0, slots := 0, locals := 0 } : Room) s m #[(.int p1), (.int p2)] below meth c s₁ [] 0 0 := Stand.of_body Bd
  have e0 : s₁.heap = h0 := by rw [← hh, Bd.state]; rfl
  have N0 := Fr.nil n0
  show own_Go p e below s (Q_rm5 Z p1 p2 h0 n0) 0 0 (s₁.setTop (entryFrame m #[(.int p1), (.int p2)] 2))
  refine own_go (B := s₁.setTop (mkF m 0 #[.val (.int p1), .val (.int p2)] [])) (fun tgt cont => (XT.entry rfl).trans cont) ?_
  refine own_go (B := s₁.setTop (mkF m 2 #[.val (.int p1), .val (.int p2)] [(.int p2), (.int p1)])) (fun tgt cont => ?_) ?_
  · refine XS.iloadN X0.here hx rfl (hb hby d5_0) rfl ?_
    refine XS.iloadN X0.here hx rfl (hb hby d5_1) rfl ?_
    exact cont
  by_cases hc1 : p2 < p1
  ·
    refine own_go (B := s₁.setTop (mkF m 10 #[.val (.int p1), .val (.int p2)] [(.int p2)])) (fun tgt cont => ?_) ?_
    · refine XS.icmpYes X0.here hx rfl (pc0 := 2) (pc' := 9) rfl (hb hby d5_2) rfl (XT.ii_gt_t hc1) (by decide) (by decide) ?_
      refine XS.iloadN X0.here hx rfl (hb hby d5_9) rfl ?_
      exact cont
    refine own_end X0 (v := some (.int p2)) (fun h => by rw [Bd.returns] at h; cases h) hlk ?_ (by decide) (by decide) (fun fs hl => retI X0 hx Bd.returns (hb hby d5_10) hl)
    exact ⟨(by unfold own_min; first | (simp only [if_pos hc1]; done) | (simp only [if_pos hc1]; exact rfl) | exact rfl), N0, e0⟩
  ·
    refine own_go (B := s₁.setTop (mkF m 10 #[.val (.int p1), .val (.int p2)] [(.int p1)])) (fun tgt cont => ?_) ?_
    · refine XS.icmpNo X0.here hx rfl (hb hby d5_2) rfl (XT.ii_gt_f hc1) ?_
      refine XS.iloadN X0.here hx rfl (hb hby d5_5) rfl ?_
      refine XS.goto X0.here hx rfl (pc0 := 6) (pc' := 10) rfl (hb hby d5_6) (by decide) (by decide) ?_
      exact cont
    refine own_end X0 (v := some (.int p1)) (fun h => by rw [Bd.returns] at h; cases h) hlk ?_ (by decide) (by decide) (fun fs hl => retI X0 hx Bd.returns (hb hby d5_10) hl)
    exact ⟨(by unfold own_min; first | (simp only [if_neg hc1]; done) | (simp only [if_neg hc1]; exact rfl) | exact rfl), N0, e0⟩
def own_bi_degree (p1 : Int32) : List Int32 := (List.replicate p1.toNatClampNeg 0)
def own_bi_ends  : List Int32 := [(0 : Int32), (0 : Int32), (0 : Int32), (0 : Int32), (0 : Int32), (0 : Int32), (0 : Int32), (0 : Int32), (0 : Int32), (0 : Int32), (0 : Int32), (0 : Int32), (0 : Int32), (0 : Int32), (0 : Int32), (0 : Int32)]
def Q_rm1 (Z : State) (a : Addr) (p1 : Int32) (h0 : Heap) (n0 : Nat) (v : Option Value) (h : Heap) (L : List Loc) : Prop := ∃ nb0 nb1 : Addr, v = none ∧ Fr n0 L ∧ Keep h0 h [a] ∧ Exa Z h a "com/example/cyclecut/cyclecut/graph/Graph$Builder" ∧ Fld Z h a "com/example/cyclecut/cyclecut/graph/Graph$Builder" "vertexCount" "I" (.int p1) ∧ Fld Z h a "com/example/cyclecut/cyclecut/graph/Graph$Builder" "degree" "[I" (.ref nb0) ∧ Fld Z h a "com/example/cyclecut/cyclecut/graph/Graph$Builder" "ends" "[I" (.ref nb1) ∧ Fld Z h a "com/example/cyclecut/cyclecut/graph/Graph$Builder" "edgeCount" "I" (.int (0 : Int32)) ∧ h0.size ≤ nb0 ∧ own_IA Z h nb0 (own_bi_degree p1) ∧ Exa Z h nb0 "[I" ∧ h0.size ≤ nb1 ∧ own_IA Z h nb1 own_bi_ends ∧ Exa Z h nb1 "[I" ∧ nb0 ≠ nb1
theorem own_pn2 : plainName "com/example/cyclecut/cyclecut/graph/Graph$Builder" = true := by first | (simp [plainName, overriddenIn]; done) | decide +kernel
theorem d1_0 : decode prog_24_method_1_code 0 = .ok (.aload_n 0, 1) := by decide +kernel
theorem d1_1 : decode prog_24_method_1_code 1 = .ok (.invokespecial 3, 3) := by decide +kernel
theorem d1_4 : decode prog_24_method_1_code 4 = .ok (.aload_n 0, 1) := by decide +kernel
theorem d1_5 : decode prog_24_method_1_code 5 = .ok (.bipush 16, 2) := by decide +kernel
theorem d1_7 : decode prog_24_method_1_code 7 = .ok (.newarray .int, 2) := by decide +kernel
theorem d1_9 : decode prog_24_method_1_code 9 = .ok (.putfield 9, 3) := by decide +kernel
theorem d1_12 : decode prog_24_method_1_code 12 = .ok (.iload_n 1, 1) := by decide +kernel
theorem d1_13 : decode prog_24_method_1_code 13 = .ok (.ifCond .ge 17, 3) := by decide +kernel
theorem d1_30 : decode prog_24_method_1_code 30 = .ok (.aload_n 0, 1) := by decide +kernel
theorem d1_31 : decode prog_24_method_1_code 31 = .ok (.iload_n 1, 1) := by decide +kernel
theorem d1_32 : decode prog_24_method_1_code 32 = .ok (.putfield 24, 3) := by decide +kernel
theorem d1_35 : decode prog_24_method_1_code 35 = .ok (.aload_n 0, 1) := by decide +kernel
theorem d1_36 : decode prog_24_method_1_code 36 = .ok (.iload_n 1, 1) := by decide +kernel
theorem d1_37 : decode prog_24_method_1_code 37 = .ok (.newarray .int, 2) := by decide +kernel
theorem d1_39 : decode prog_24_method_1_code 39 = .ok (.putfield 28, 3) := by decide +kernel
theorem d1_42 : decode prog_24_method_1_code 42 = .ok (.return_, 1) := by decide +kernel
set_option maxRecDepth 65536 in
set_option maxHeartbeats 40000000 in
theorem rm1 (l : Launch) (Z : State) (a0 : Array Value) (hw : ∀ d ∈ tables_1, d.before a0 Z = true) (ws : List Jvm.Cond) (a : Addr) (p1 : Int32) (h0 : Heap) (n0 : Nat) (Z0 : n0 ≤ h0.size) (E_a : Exa Z h0 a "com/example/cyclecut/cyclecut/graph/Graph$Builder") (F_a_vertexCount : Fld Z h0 a "com/example/cyclecut/cyclecut/graph/Graph$Builder" "vertexCount" "I" (.int (0 : Int32))) (F_a_degree : Fld Z h0 a "com/example/cyclecut/cyclecut/graph/Graph$Builder" "degree" "[I" .null) (F_a_ends : Fld Z h0 a "com/example/cyclecut/cyclecut/graph/Graph$Builder" "ends" "[I" .null) (F_a_edgeCount : Fld Z h0 a "com/example/cyclecut/cyclecut/graph/Graph$Builder" "edgeCount" "I" (.int (0 : Int32))) (g_a : n0 ≤ a) (hn : ¬ p1 < 0) (h8 : p1.toNatClampNeg ≤ 8) :
    MetFree l (⟨"com/example/cyclecut/cyclecut/graph/Graph$Builder", "<init>", "(I)V"⟩ : MethodName) (head1 (Jvm.Cond.code (⟨"com/example/cyclecut/cyclecut/graph/Graph$Builder", "<init>", "(I)V"⟩ : MethodName) prog_24_method_1_code 2 none :: ws) ({ frames := 1, cells := 2, slots := 24, locals := 12 } : Room)) (fun aa U => aa = #[(.ref a), (.int p1)] ∧ Z.Warmed39 U.vm ∧ U.heap = h0) (fun _ _ _ _ _ => True) (fun _ U o U' => ∃ v L, o = .returned v ∧ Q_rm1 Z a p1 h0 n0 v U'.heap L ∧ FrameEnd U o U' L ({ frames := 1, cells := 2, slots := 24, locals := 12 } : Room).cells ({ frames := 1, cells := 2, slots := 24, locals := 12 } : Room).slots) := by
  refine MetFree.of_bodySF (plainFor_of_name own_pn2) hisR ?_
  intro p e s m args below meth c s₁ Bd hml0 hP hK
  obtain ⟨rfl, hZ, hh⟩ := hP
  have hx := Bd.exec
  have hby := Bd.bytes
  have hml : c.maxLocals = 2 := hml0
  have hlk : meth.locks = false := BodyLoose.notSynchronized Bd
  have hown : s.vm.findClass "com/example/cyclecut/cyclecut/graph/Graph$Builder" = some m.cls := findClass_of_methodNamed Bd.named
  have hnm := (name_of_methodNamed Bd.named Bd.method).1
  have X0 : Stand p l e ({ frames := 1, cells := 2, slots := 24, locals := 12 } : Room) s m #[(.ref a), (.int p1)] below meth c s₁ [] 0 0 := Stand.of_body Bd
  have e0 : s₁.heap = h0 := by rw [← hh, Bd.state]; rfl
  have N0 := Fr.nil n0
  show own_Go p e below s (Q_rm1 Z a p1 h0 n0) 2 24 (s₁.setTop (entryFrame m #[(.ref a), (.int p1)] 2))
  refine own_go (B := s₁.setTop (mkF m 0 #[.val (.ref a), .val (.int p1)] [])) (fun tgt cont => (XT.entry rfl).trans cont) ?_
  refine own_go (B := s₁.setTop (mkF m 1 #[.val (.ref a), .val (.int p1)] [(.ref a)])) (fun tgt cont => ?_) ?_
  · refine XS.aloadN X0.here hx rfl (hb hby d1_0) rfl rfl ?_
    exact cont
  obtain ⟨T1, X1, e1, st1⟩ := initO X0 hx hZ hown (hw _ (List.mem_of_getElem? (i := 6) rfl)) (hw _ (List.mem_of_getElem? (i := 7) rfl)) (hw _ (List.mem_of_getElem? (i := 8) rfl)) e0 (g := (mkF m 1 #[.val (.ref a), .val (.int p1)] [(.ref a)])) rfl (by rw [hml]; rfl) rfl (hb hby d1_1) (by decide) (W := 0) (by show 2 * 0 + _ ≤ _; exact Nat.le_of_eq rfl) (by decide)
  refine own_go (fun tgt cont => st1 tgt cont) ?_
  show own_Go p e below s (Q_rm1 Z a p1 h0 n0) 2 24 (T1.setTop (mkF m 4 #[.val (.ref a), .val (.int p1)] []))
  refine own_go (B := T1.setTop (mkF m 7 #[.val (.ref a), .val (.int p1)] [(.int (16 : Int32)), (.ref a)])) (fun tgt cont => ?_) ?_
  · refine XS.aloadN X1.here hx rfl (hb hby d1_4) rfl rfl ?_
    refine XT.bipushV X1.here hx rfl (16 : Int32) (hb hby d1_5) rfl ?_
    exact cont
  obtain ⟨T2, h2, X2, e2, E2, A2, AE2, st2⟩ := own_newIA X1 hx hZ (hw _ (List.mem_of_getElem? (i := 9) rfl)) e1 (g := (mkF m 7 #[.val (.ref a), .val (.int p1)] [(.int (16 : Int32)), (.ref a)])) rfl (hb hby d1_7) rfl (by decide) (cap := 16) (by decide) (by decide) (by decide) (by decide)
  obtain ⟨b2, g2⟩ : ∃ z, z = h0.size := ⟨_, rfl⟩
  rw [← g2] at A2 AE2 st2
  have g_b2 : n0 ≤ b2 := Nat.le_trans Z0 (Nat.le_of_eq g2.symm)
  have sz_b2 : h0.size ≤ b2 := Nat.le_trans (Keep.refl h0 [a]).1 (Nat.le_of_eq g2.symm)
  have ne_a_b2 : a ≠ b2 := Nat.ne_of_lt (by rw [g2]; exact E_a.lt)
  have kk2 : Keep h0 h2 [a] := (Keep.refl h0 [a]).ext E2
  have zp2 : n0 ≤ h2.size := Nat.le_trans Z0 kk2.1
  have A2v : own_IA Z h2 b2 [(0 : Int32), (0 : Int32), (0 : Int32), (0 : Int32), (0 : Int32), (0 : Int32), (0 : Int32), (0 : Int32), (0 : Int32), (0 : Int32), (0 : Int32), (0 : Int32), (0 : Int32), (0 : Int32), (0 : Int32), (0 : Int32)] := A2
  refine own_go (fun tgt cont => st2 tgt cont) ?_
  show own_Go p e below s (Q_rm1 Z a p1 h0 n0) 2 24 (T2.setTop (mkF m 9 #[.val (.ref a), .val (.int p1)] [(.ref b2), (.ref a)]))
  have f4 := (F_a_ends.ext E2)
  have f5 := (E_a.ext E2)
  obtain ⟨T3, h3, X3, e3, W3, st3⟩ := putF X2 hx hZ hown (host := "") (Or.inl (hw _ (List.mem_of_getElem? (i := 10) rfl))) Via.refl e2 f4 f5 (Or.inl (hw _ (List.mem_of_getElem? (i := 11) rfl))) (hw _ (List.mem_of_getElem? (i := 1) rfl)) (ty := (.array .int)) (by decide) rfl rfl (g := (mkF m 9 #[.val (.ref a), .val (.int p1)] [(.ref b2), (.ref a)])) rfl rfl (hb hby d1_9)
  have fw3 := f4.same W3
  have N3 := Fr.snoc X3 N0 g_a
  have kk3 : Keep h0 h3 [a] := kk2.wr W3 (Or.inl (List.mem_of_getElem? (i := 0) rfl))
  have zp3 : n0 ≤ h3.size := Nat.le_trans Z0 kk3.1
  refine own_go (fun tgt cont => st3 tgt cont) ?_
  show own_Go p e below s (Q_rm1 Z a p1 h0 n0) 2 24 (T3.setTop (mkF m 12 #[.val (.ref a), .val (.int p1)] []))
  refine own_go (B := T3.setTop (mkF m 32 #[.val (.ref a), .val (.int p1)] [(.int p1), (.ref a)])) (fun tgt cont => ?_) ?_
  · refine XS.iloadN X3.here hx rfl (hb hby d1_12) rfl ?_
    refine XS.ifYes X3.here hx rfl (pc0 := 13) (pc' := 30) rfl (hb hby d1_13) rfl (XT.i0_ge_t hn) (by decide) (by decide) ?_
    refine XS.aloadN X3.here hx rfl (hb hby d1_30) rfl rfl ?_
    refine XS.iloadN X3.here hx rfl (hb hby d1_31) rfl ?_
    exact cont
  have f7 := ((F_a_vertexCount.ext E2).other W3 (Or.inr (slot_ne (t := .int) (t' := (.array .int)) (Or.inr (hw _ (List.mem_of_getElem? (i := 13) rfl))) (Or.inl (hw _ (List.mem_of_getElem? (i := 11) rfl))) (by decide) (by decide) (by decide))))
  have f8 := (f5.wr W3)
  obtain ⟨T6, h6, X6, e6, W6, st6⟩ := putF X3 hx hZ hown (host := "") (Or.inl (hw _ (List.mem_of_getElem? (i := 12) rfl))) Via.refl e3 f7 f8 (Or.inr ⟨(hw _ (List.mem_of_getElem? (i := 13) rfl)), rfl, hnm⟩) (hw _ (List.mem_of_getElem? (i := 1) rfl)) (ty := .int) (by decide) rfl rfl (g := (mkF m 32 #[.val (.ref a), .val (.int p1)] [(.int p1), (.ref a)])) rfl rfl (hb hby d1_32)
  have fw6 := f7.same W6
  have N6 := Fr.snoc X6 N3 g_a
  have kk6 : Keep h0 h6 [a] := kk3.wr W6 (Or.inl (List.mem_of_getElem? (i := 0) rfl))
  have zp6 : n0 ≤ h6.size := Nat.le_trans Z0 kk6.1
  refine own_go (fun tgt cont => st6 tgt cont) ?_
  show own_Go p e below s (Q_rm1 Z a p1 h0 n0) 2 24 (T6.setTop (mkF m 35 #[.val (.ref a), .val (.int p1)] []))
  refine own_go (B := T6.setTop (mkF m 37 #[.val (.ref a), .val (.int p1)] [(.int p1), (.ref a)])) (fun tgt cont => ?_) ?_
  · refine XS.aloadN X6.here hx rfl (hb hby d1_35) rfl rfl ?_
    refine XS.iloadN X6.here hx rfl (hb hby d1_36) rfl ?_
    exact cont
  have f10 := (f8.wr W6)
  have f11 := ((A2v.other W3 (Ne.symm ne_a_b2)).other W6 (Ne.symm ne_a_b2))
  obtain ⟨T9, h9, X9, e9, E9, A9, AE9, st9⟩ := own_newIA X6 hx hZ (hw _ (List.mem_of_getElem? (i := 9) rfl)) e6 (g := (mkF m 37 #[.val (.ref a), .val (.int p1)] [(.int p1), (.ref a)])) rfl (hb hby d1_37) rfl hn (cap := 8) h8 (by decide) (by decide) (by decide)
  obtain ⟨b9, g9⟩ : ∃ z, z = h6.size := ⟨_, rfl⟩
  rw [← g9] at A9 AE9 st9
  have g_b9 : n0 ≤ b9 := Nat.le_trans zp6 (Nat.le_of_eq g9.symm)
  have sz_b9 : h0.size ≤ b9 := Nat.le_trans kk6.1 (Nat.le_of_eq g9.symm)
  have ne_a_b9 : a ≠ b9 := Nat.ne_of_lt (by rw [g9]; exact f10.lt)
  have ne_b2_b9 : b2 ≠ b9 := Nat.ne_of_lt (by rw [g9]; exact f11.lt)
  have kk9 : Keep h0 h9 [a] := kk6.ext E9
  have zp9 : n0 ≤ h9.size := Nat.le_trans Z0 kk9.1
  refine own_go (fun tgt cont => st9 tgt cont) ?_
  show own_Go p e below s (Q_rm1 Z a p1 h0 n0) 2 24 (T9.setTop (mkF m 39 #[.val (.ref a), .val (.int p1)] [(.ref b9), (.ref a)]))
  have f13 := ((((F_a_degree.ext E2).other W3 (Or.inr (slot_ne (t := (.array .int)) (t' := (.array .int)) (Or.inr (hw _ (List.mem_of_getElem? (i := 15) rfl))) (Or.inl (hw _ (List.mem_of_getElem? (i := 11) rfl))) (by decide) (by decide) (by decide)))).other W6 (Or.inr (slot_ne (t := (.array .int)) (t' := .int) (Or.inr (hw _ (List.mem_of_getElem? (i := 15) rfl))) (Or.inr (hw _ (List.mem_of_getElem? (i := 13) rfl))) (by decide) (by decide) (by decide)))).ext E9)
  have f14 := (f10.ext E9)
  obtain ⟨T12, h12, X12, e12, W12, st12⟩ := putF X9 hx hZ hown (host := "") (Or.inl (hw _ (List.mem_of_getElem? (i := 14) rfl))) Via.refl e9 f13 f14 (Or.inr ⟨(hw _ (List.mem_of_getElem? (i := 15) rfl)), rfl, hnm⟩) (hw _ (List.mem_of_getElem? (i := 1) rfl)) (ty := (.array .int)) (by decide) rfl rfl (g := (mkF m 39 #[.val (.ref a), .val (.int p1)] [(.ref b9), (.ref a)])) rfl rfl (hb hby d1_39)
  have fw12 := f13.same W12
  have N12 := Fr.snoc X12 N6 g_a
  have kk12 : Keep h0 h12 [a] := kk9.wr W12 (Or.inl (List.mem_of_getElem? (i := 0) rfl))
  have zp12 : n0 ≤ h12.size := Nat.le_trans Z0 kk12.1
  refine own_go (fun tgt cont => st12 tgt cont) ?_
  show own_Go p e below s (Q_rm1 Z a p1 h0 n0) 2 24 (T12.setTop (mkF m 42 #[.val (.ref a), .val (.int p1)] []))
  refine own_end X12 (v := none) (fun _ => rfl) hlk ?_ (by decide) (by decide) (fun fs hl => X12.returnOut hx Bd.returns (hb hby d1_42) hl)
  have f15 := (f14.wr W12)
  have f16 := ((fw6.ext E9).other W12 (Or.inr (slot_ne (t := .int) (t' := (.array .int)) (Or.inr (hw _ (List.mem_of_getElem? (i := 13) rfl))) (Or.inr (hw _ (List.mem_of_getElem? (i := 15) rfl))) (by decide) (by decide) (by decide))))
  have f17 := (((fw3.other W6 (Or.inr (slot_ne (t := (.array .int)) (t' := .int) (Or.inl (hw _ (List.mem_of_getElem? (i := 11) rfl))) (Or.inr (hw _ (List.mem_of_getElem? (i := 13) rfl))) (by decide) (by decide) (by decide)))).ext E9).other W12 (Or.inr (slot_ne (t := (.array .int)) (t' := (.array .int)) (Or.inl (hw _ (List.mem_of_getElem? (i := 11) rfl))) (Or.inr (hw _ (List.mem_of_getElem? (i := 15) rfl))) (by decide) (by decide) (by decide))))
  have f18 := (((((F_a_edgeCount.ext E2).other W3 (Or.inr (slot_ne (t := .int) (t' := (.array .int)) (Or.inl (hw _ (List.mem_of_getElem? (i := 25) rfl))) (Or.inl (hw _ (List.mem_of_getElem? (i := 11) rfl))) (by decide) (by decide) (by decide)))).other W6 (Or.inr (slot_ne (t := .int) (t' := .int) (Or.inl (hw _ (List.mem_of_getElem? (i := 25) rfl))) (Or.inr (hw _ (List.mem_of_getElem? (i := 13) rfl))) (by decide) (by decide) (by decide)))).ext E9).other W12 (Or.inr (slot_ne (t := .int) (t' := (.array .int)) (Or.inl (hw _ (List.mem_of_getElem? (i := 25) rfl))) (Or.inr (hw _ (List.mem_of_getElem? (i := 15) rfl))) (by decide) (by decide) (by decide))))
  have f19 := (A9.other W12 (Ne.symm ne_a_b9))
  have f20 := (AE9.wr W12)
  have f21 := ((f11.ext E9).other W12 (Ne.symm ne_a_b2))
  have f22 := ((((AE2.wr W3).wr W6).ext E9).wr W12)
  rw [e12]
  exact ⟨_, _, rfl, N12, kk12, f15, f16, fw12, f17, f18, sz_b9, (by unfold own_bi_degree; exact f19), f20, sz_b2, (by unfold own_bi_ends; exact f21), f22, (Ne.symm ne_b2_b9)⟩
theorem own_cpM {vs : List Int32} {q : Int32} (hn : ¬ q < 0) (hs : vs.length < 2147483648) : ¬ own_min (Int32.ofNat vs.length) q < 0 ∧ (own_min (Int32.ofNat vs.length) q).toNatClampNeg ≤ vs.length ∧ (own_min (Int32.ofNat vs.length) q).toNatClampNeg ≤ q.toNatClampNeg := by
  have e0 : (0 : Int32).toInt = 0 := rfl
  have t := own_toI hs
  unfold own_min
  simp only [Int32.lt_iff_toInt_lt, Int32.toNatClampNeg] at *
  rw [e0] at *
  split <;> omega
def own_cof_l (p1 : Int32) (vs : List Int32) : List Int32 := (vs.take (own_min (Int32.ofNat vs.length) p1).toNatClampNeg ++ (List.replicate p1.toNatClampNeg 0).drop (own_min (Int32.ofNat vs.length) p1).toNatClampNeg)
def Q_rm4 (Z : State) (a : Addr) (p1 : Int32) (vs : List Int32) (h0 : Heap) (n0 : Nat) (v : Option Value) (h : Heap) (L : List Loc) : Prop := ∃ b : Addr, v = some (.ref b) ∧ Fr n0 L ∧ Keep h0 h [] ∧ h0.size ≤ b ∧ own_IA Z h b (own_cof_l p1 vs) ∧ Exa Z h b "[I"
theorem own_pn3 : plainName "java/util/Arrays" = true := by first | (simp [plainName, overriddenIn]; done) | decide +kernel
theorem own_pd1 : parseMethodDescriptor "(II)I" = some ⟨[.int, .int], some .int⟩ := by decide +kernel
theorem d4_0 : decode jdk_65_method_123_code 0 = .ok (.iload_n 1, 1) := by decide +kernel
theorem d4_1 : decode jdk_65_method_123_code 1 = .ok (.aload_n 0, 1) := by decide +kernel
theorem d4_2 : decode jdk_65_method_123_code 2 = .ok (.arraylength, 1) := by decide +kernel
theorem d4_3 : decode jdk_65_method_123_code 3 = .ok (.if_icmp .ne 11, 3) := by decide +kernel
theorem d4_14 : decode jdk_65_method_123_code 14 = .ok (.iload_n 1, 1) := by decide +kernel
theorem d4_15 : decode jdk_65_method_123_code 15 = .ok (.newarray .int, 2) := by decide +kernel
theorem d4_17 : decode jdk_65_method_123_code 17 = .ok (.astore_n 2, 1) := by decide +kernel
theorem d4_18 : decode jdk_65_method_123_code 18 = .ok (.aload_n 0, 1) := by decide +kernel
theorem d4_19 : decode jdk_65_method_123_code 19 = .ok (.iconst 0, 1) := by decide +kernel
theorem d4_20 : decode jdk_65_method_123_code 20 = .ok (.aload_n 2, 1) := by decide +kernel
theorem d4_21 : decode jdk_65_method_123_code 21 = .ok (.iconst 0, 1) := by decide +kernel
theorem d4_22 : decode jdk_65_method_123_code 22 = .ok (.aload_n 0, 1) := by decide +kernel
theorem d4_23 : decode jdk_65_method_123_code 23 = .ok (.arraylength, 1) := by decide +kernel
theorem d4_24 : decode jdk_65_method_123_code 24 = .ok (.iload_n 1, 1) := by decide +kernel
theorem d4_25 : decode jdk_65_method_123_code 25 = .ok (.invokestatic 304, 3) := by decide +kernel
theorem d4_28 : decode jdk_65_method_123_code 28 = .ok (.invokestatic 150, 3) := by decide +kernel
theorem d4_31 : decode jdk_65_method_123_code 31 = .ok (.aload_n 2, 1) := by decide +kernel
theorem d4_32 : decode jdk_65_method_123_code 32 = .ok (.areturn, 1) := by decide +kernel
set_option maxRecDepth 65536 in
set_option maxHeartbeats 40000000 in
theorem rm4 (l : Launch) (Z : State) (a0 : Array Value) (hw : ∀ d ∈ tables_1, d.before a0 Z = true) (ws : List Jvm.Cond) (a : Addr) (p1 : Int32) (vs : List Int32) (h0 : Heap) (n0 : Nat) (Z0 : n0 ≤ h0.size) (A_a : own_IA Z h0 a vs) (hd : ¬ p1 = (Int32.ofNat vs.length)) (hn : ¬ p1 < 0) (h8 : p1.toNatClampNeg ≤ 32) :
    MetFree l (⟨"java/util/Arrays", "copyOf", "([II)[I"⟩ : MethodName) (head1 (Jvm.Cond.code (⟨"java/util/Arrays", "copyOf", "([II)[I"⟩ : MethodName) jdk_65_method_123_code 3 (some (.array .int)) :: ws) ({ frames := 1, cells := 1, slots := 32, locals := 18 } : Room)) (fun aa U => aa = #[(.ref a), (.int p1)] ∧ Z.Warmed39 U.vm ∧ U.heap = h0) (fun _ _ _ _ _ => True) (fun _ U o U' => ∃ v L, o = .returned v ∧ Q_rm4 Z a p1 vs h0 n0 v U'.heap L ∧ FrameEnd U o U' L ({ frames := 1, cells := 1, slots := 32, locals := 18 } : Room).cells ({ frames := 1, cells := 1, slots := 32, locals := 18 } : Room).slots) := by
  refine MetFree.of_bodySF (plainFor_of_name own_pn3) hisR ?_
  intro p e s m args below meth c s₁ Bd hml0 hP hK
  obtain ⟨rfl, hZ, hh⟩ := hP
  have hx := Bd.exec
  have hby := Bd.bytes
  have hml : c.maxLocals = 3 := hml0
  have hlk : meth.locks = false := BodyLoose.notSynchronized Bd
  have hown : s.vm.findClass "java/util/Arrays" = some m.cls := findClass_of_methodNamed Bd.named
  have hnm := (name_of_methodNamed Bd.named Bd.method).1
  have X0 : Stand p l e ({ frames := 1, cells := 1, slots := 32, locals := 18 } : Room) s m #[(.ref a), (.int p1)] below meth c s₁ [] 0 0 := Stand.of_body Bd
  have e0 : s₁.heap = h0 := by rw [← hh, Bd.state]; rfl
  have N0 := Fr.nil n0
  show own_Go p e below s (Q_rm4 Z a p1 vs h0 n0) 1 32 (s₁.setTop (entryFrame m #[(.ref a), (.int p1)] 3))
  refine own_go (B := s₁.setTop (mkF m 0 #[.val (.ref a), .val (.int p1), .unset] [])) (fun tgt cont => (XT.entry rfl).trans cont) ?_
  refine own_go (B := s₁.setTop (mkF m 15 #[.val (.ref a), .val (.int p1), .unset] [(.int p1)])) (fun tgt cont => ?_) ?_
  · refine XS.iloadN X0.here hx rfl (hb hby d4_0) rfl ?_
    refine XS.aloadN X0.here hx rfl (hb hby d4_1) rfl rfl ?_
    refine own_lenIA X0 hx hZ e0 A_a (g := (mkF m 2 #[.val (.ref a), .val (.int p1), .unset] [(.ref a), (.int p1)])) rfl rfl (hb hby d4_2) ?_
    refine XS.icmpYes X0.here hx rfl (pc0 := 3) (pc' := 14) rfl (hb hby d4_3) rfl (XT.ii_ne_t hd) (by decide) (by decide) ?_
    refine XS.iloadN X0.here hx rfl (hb hby d4_14) rfl ?_
    exact cont
  obtain ⟨T1, h1, X1, e1, E1, A1, AE1, st1⟩ := own_newIA X0 hx hZ (hw _ (List.mem_of_getElem? (i := 9) rfl)) e0 (g := (mkF m 15 #[.val (.ref a), .val (.int p1), .unset] [(.int p1)])) rfl (hb hby d4_15) rfl hn (cap := 32) h8 (by decide) (by decide) (by decide)
  obtain ⟨b1, g1⟩ : ∃ z, z = h0.size := ⟨_, rfl⟩
  rw [← g1] at A1 AE1 st1
  have g_b1 : n0 ≤ b1 := Nat.le_trans Z0 (Nat.le_of_eq g1.symm)
  have sz_b1 : h0.size ≤ b1 := Nat.le_trans (Keep.refl h0 []).1 (Nat.le_of_eq g1.symm)
  have ne_a_b1 : a ≠ b1 := Nat.ne_of_lt (by rw [g1]; exact A_a.lt)
  have kk1 : Keep h0 h1 [] := (Keep.refl h0 []).ext E1
  have zp1 : n0 ≤ h1.size := Nat.le_trans Z0 kk1.1
  refine own_go (fun tgt cont => st1 tgt cont) ?_
  show own_Go p e below s (Q_rm4 Z a p1 vs h0 n0) 1 32 (T1.setTop (mkF m 17 #[.val (.ref a), .val (.int p1), .unset] [(.ref b1)]))
  have f2 := (A_a.ext E1)
  refine own_go (B := T1.setTop (mkF m 25 #[.val (.ref a), .val (.int p1), .val (.ref b1)] [(.int p1), (.int (Int32.ofNat vs.length)), (.int (0 : Int32)), (.ref b1), (.int (0 : Int32)), (.ref a)])) (fun tgt cont => ?_) ?_
  · refine XS.astoreN X1.here hx rfl (hb hby d4_17) rfl rfl (l' := #[.val (.ref a), .val (.int p1), .val (.ref b1)]) rfl ?_
    refine XS.aloadN X1.here hx rfl (hb hby d4_18) rfl rfl ?_
    refine XT.iconstV X1.here hx rfl (0 : Int32) (hb hby d4_19) rfl ?_
    refine XS.aloadN X1.here hx rfl (hb hby d4_20) rfl rfl ?_
    refine XT.iconstV X1.here hx rfl (0 : Int32) (hb hby d4_21) rfl ?_
    refine XS.aloadN X1.here hx rfl (hb hby d4_22) rfl rfl ?_
    refine own_lenIA X1 hx hZ e1 f2 (g := (mkF m 23 #[.val (.ref a), .val (.int p1), .val (.ref b1)] [(.ref a), (.int (0 : Int32)), (.ref b1), (.int (0 : Int32)), (.ref a)])) rfl rfl (hb hby d4_23) ?_
    refine XS.iloadN X1.here hx rfl (hb hby d4_24) rfl ?_
    exact cont
  -- pc 25: Math.min
  obtain ⟨_, _, ⟨T3, L3, k3, n3⟩, -, X3, ⟨Lc3, hQ3, l3, y3, z3⟩, st3⟩ := Jvm.LawKit.callS X1 hx (y := (⟨"java/lang/Math", "min", "(II)I"⟩ : MethodName)) hown (mvT hZ (hw _ (List.mem_of_getElem? (i := 30) rfl))) (mvT hZ (hw _ (List.mem_of_getElem? (i := 31) rfl))) (mvT hZ (hw _ (List.mem_of_getElem? (i := 32) rfl))) (mvT hZ (hw _ (List.mem_of_getElem? (i := 33) rfl))) (by decide) (backOf (W := 4) (rm5 l Z a0 hw [] (Int32.ofNat vs.length) p1 h1 n0 zp1 ) hZ (hw _ (List.mem_of_getElem? (i := 33) rfl)) (hw _ (List.mem_of_getElem? (i := 32) rfl)) (by decide) (by decide)) (g := (mkF m 25 #[.val (.ref a), .val (.int p1), .val (.ref b1)] [(.int p1), (.int (Int32.ofNat vs.length)), (.int (0 : Int32)), (.ref b1), (.int (0 : Int32)), (.ref a)])) rfl (by rw [hml]; rfl) (argsL := [(.int (Int32.ofNat vs.length)), (.int p1)]) (rest := [(.int (0 : Int32)), (.ref b1), (.int (0 : Int32)), (.ref a)]) (lenOf own_pd1 rfl) rfl (by show 2 * 0 + _ ≤ _; exact Nat.le_of_eq rfl) (hb hby d4_25) (fun _ _ => ⟨rfl, e1, (by decide : 0 + 1 + 0 ≤ _), (by decide : 0 + 32 + 0 ≤ _)⟩)
  dsimp only [Pt.U, Pt.locs, Pt.cells, Pt.slots] at X3 l3 y3 z3 st3 hQ3
  subst l3 y3 z3
  obtain ⟨rfl, N3q, e3⟩ := hQ3
  have N3 := Fr.app N0 N3q
  refine own_go (fun tgt cont => st3 tgt cont) ?_
  show own_Go p e below s (Q_rm4 Z a p1 vs h0 n0) 1 32 (T3.setTop (mkF m 28 #[.val (.ref a), .val (.int p1), .val (.ref b1)] [(.int (own_min (Int32.ofNat vs.length) p1)), (.int (0 : Int32)), (.ref b1), (.int (0 : Int32)), (.ref a)]))
  obtain ⟨T4, h4, L4, X4, e4, N4, K4, A4, st4⟩ := own_cpIA X3 hx hZ hown (hw _ (List.mem_of_getElem? (i := 34) rfl)) (hw _ (List.mem_of_getElem? (i := 37) rfl)) (hw _ (List.mem_of_getElem? (i := 35) rfl)) (hw _ (List.mem_of_getElem? (i := 36) rfl)) e3 f2 A1 (nn := (own_min (Int32.ofNat vs.length) p1)) (own_cpM hn A_a.small).1 (own_cpM hn A_a.small).2.1 (by rw [List.length_replicate]; exact (own_cpM hn A_a.small).2.2) N3 g_b1 (g := (mkF m 28 #[.val (.ref a), .val (.int p1), .val (.ref b1)] [(.int (own_min (Int32.ofNat vs.length) p1)), (.int (0 : Int32)), (.ref b1), (.int (0 : Int32)), (.ref a)])) rfl (by rw [hml]; rfl) rfl (hb hby d4_28) (by decide) (W := 0) (by show 2 * 0 + _ ≤ _; exact Nat.le_of_eq rfl) (by decide)
  have kk4 : Keep h0 h4 [] := kk1.trans K4 (allS (Or.inr sz_b1) all0)
  have zp4 : n0 ≤ h4.size := Nat.le_trans Z0 kk4.1
  refine own_go (fun tgt cont => st4 tgt cont) ?_
  show own_Go p e below s (Q_rm4 Z a p1 vs h0 n0) 1 32 (T4.setTop (mkF m 31 #[.val (.ref a), .val (.int p1), .val (.ref b1)] []))
  refine own_go (B := T4.setTop (mkF m 32 #[.val (.ref a), .val (.int p1), .val (.ref b1)] [(.ref b1)])) (fun tgt cont => ?_) ?_
  · refine XS.aloadN X4.here hx rfl (hb hby d4_31) rfl rfl ?_
    exact cont
  refine own_end X4 (v := some (.ref b1)) (fun h => by rw [Bd.returns] at h; cases h) hlk ?_ (by decide) (by decide) (fun fs hl => retOut X4 hx Bd.returns rfl (Or.inr (Or.inr (Or.inr (Or.inr ⟨rfl, rfl, rfl⟩)))) (hb hby d4_32) hl)
  have f5 := (AE1.keep K4)
  rw [e4]
  exact ⟨_, rfl, N4, kk4, sz_b1, (by unfold own_cof_l; exact A4), f5⟩
def own_ae_edgeCount (u_c : Int32) : Int32 := (u_c + (1 : Int32))
def own_ae_ds (p1 : Int32) (p2 : Int32) (ds : List Int32) : List Int32 := ((ds.set p1.toNatClampNeg ((ds.getD p1.toNatClampNeg 0) + (1 : Int32))).set p2.toNatClampNeg (((ds.set p1.toNatClampNeg ((ds.getD p1.toNatClampNeg 0) + (1 : Int32))).getD p2.toNatClampNeg 0) + (1 : Int32)))
def own_ae_es (p1 : Int32) (p2 : Int32) (u_c : Int32) (es : List Int32) : List Int32 := ((es.set ((2 : Int32) * u_c).toNatClampNeg p1).set (((2 : Int32) * u_c) + (1 : Int32)).toNatClampNeg p2)
def Q_rm12_N (Z : State) (a : Addr) (p1 : Int32) (p2 : Int32) (u_v : Int32) (u_d : Addr) (u_e : Addr) (u_c : Int32) (ds : List Int32) (es : List Int32) (h0 : Heap) (n0 : Nat) (v : Option Value) (h : Heap) (L : List Loc) : Prop := v = some (.int u_c) ∧ Fr n0 L ∧ Keep h0 h [a, u_d, u_e] ∧ Exa Z h a "com/example/cyclecut/cyclecut/graph/Graph$Builder" ∧ Fld Z h a "com/example/cyclecut/cyclecut/graph/Graph$Builder" "vertexCount" "I" (.int u_v) ∧ Fld Z h a "com/example/cyclecut/cyclecut/graph/Graph$Builder" "degree" "[I" (.ref u_d) ∧ Fld Z h a "com/example/cyclecut/cyclecut/graph/Graph$Builder" "ends" "[I" (.ref u_e) ∧ Fld Z h a "com/example/cyclecut/cyclecut/graph/Graph$Builder" "edgeCount" "I" (.int (own_ae_edgeCount u_c)) ∧ own_IA Z h u_d (own_ae_ds p1 p2 ds) ∧ own_IA Z h u_e (own_ae_es p1 p2 u_c es)
theorem d12_0 : decode prog_24_method_2_code 0 = .ok (.iload_n 1, 1) := by decide +kernel
theorem d12_1 : decode prog_24_method_2_code 1 = .ok (.aload_n 0, 1) := by decide +kernel
theorem d12_2 : decode prog_24_method_2_code 2 = .ok (.getfield 24, 3) := by decide +kernel
theorem d12_5 : decode prog_24_method_2_code 5 = .ok (.invokestatic 31, 3) := by decide +kernel
theorem d12_8 : decode prog_24_method_2_code 8 = .ok (.pop, 1) := by decide +kernel
theorem d12_9 : decode prog_24_method_2_code 9 = .ok (.iload_n 2, 1) := by decide +kernel
theorem d12_10 : decode prog_24_method_2_code 10 = .ok (.aload_n 0, 1) := by decide +kernel
theorem d12_11 : decode prog_24_method_2_code 11 = .ok (.getfield 24, 3) := by decide +kernel
theorem d12_14 : decode prog_24_method_2_code 14 = .ok (.invokestatic 31, 3) := by decide +kernel
theorem d12_17 : decode prog_24_method_2_code 17 = .ok (.pop, 1) := by decide +kernel
theorem d12_18 : decode prog_24_method_2_code 18 = .ok (.iconst 2, 1) := by decide +kernel
theorem d12_19 : decode prog_24_method_2_code 19 = .ok (.aload_n 0, 1) := by decide +kernel
theorem d12_20 : decode prog_24_method_2_code 20 = .ok (.getfield 37, 3) := by decide +kernel
theorem d12_23 : decode prog_24_method_2_code 23 = .ok (.imul, 1) := by decide +kernel
theorem d12_24 : decode prog_24_method_2_code 24 = .ok (.aload_n 0, 1) := by decide +kernel
theorem d12_25 : decode prog_24_method_2_code 25 = .ok (.getfield 9, 3) := by decide +kernel
theorem d12_28 : decode prog_24_method_2_code 28 = .ok (.arraylength, 1) := by decide +kernel
theorem d12_29 : decode prog_24_method_2_code 29 = .ok (.if_icmp .ne 51, 3) := by decide +kernel
theorem d12_80 : decode prog_24_method_2_code 80 = .ok (.aload_n 0, 1) := by decide +kernel
theorem d12_81 : decode prog_24_method_2_code 81 = .ok (.getfield 9, 3) := by decide +kernel
theorem d12_84 : decode prog_24_method_2_code 84 = .ok (.iconst 2, 1) := by decide +kernel
theorem d12_85 : decode prog_24_method_2_code 85 = .ok (.aload_n 0, 1) := by decide +kernel
theorem d12_86 : decode prog_24_method_2_code 86 = .ok (.getfield 37, 3) := by decide +kernel
theorem d12_89 : decode prog_24_method_2_code 89 = .ok (.imul, 1) := by decide +kernel
theorem d12_90 : decode prog_24_method_2_code 90 = .ok (.iload_n 1, 1) := by decide +kernel
theorem d12_91 : decode prog_24_method_2_code 91 = .ok (.iastore, 1) := by decide +kernel
theorem d12_92 : decode prog_24_method_2_code 92 = .ok (.aload_n 0, 1) := by decide +kernel
theorem d12_93 : decode prog_24_method_2_code 93 = .ok (.getfield 9, 3) := by decide +kernel
theorem d12_96 : decode prog_24_method_2_code 96 = .ok (.iconst 2, 1) := by decide +kernel
theorem d12_97 : decode prog_24_method_2_code 97 = .ok (.aload_n 0, 1) := by decide +kernel
theorem d12_98 : decode prog_24_method_2_code 98 = .ok (.getfield 37, 3) := by decide +kernel
theorem d12_101 : decode prog_24_method_2_code 101 = .ok (.imul, 1) := by decide +kernel
theorem d12_102 : decode prog_24_method_2_code 102 = .ok (.iconst 1, 1) := by decide +kernel
theorem d12_103 : decode prog_24_method_2_code 103 = .ok (.iadd, 1) := by decide +kernel
theorem d12_104 : decode prog_24_method_2_code 104 = .ok (.iload_n 2, 1) := by decide +kernel
theorem d12_105 : decode prog_24_method_2_code 105 = .ok (.iastore, 1) := by decide +kernel
theorem d12_106 : decode prog_24_method_2_code 106 = .ok (.aload_n 0, 1) := by decide +kernel
theorem d12_107 : decode prog_24_method_2_code 107 = .ok (.getfield 28, 3) := by decide +kernel
theorem d12_110 : decode prog_24_method_2_code 110 = .ok (.iload_n 1, 1) := by decide +kernel
theorem d12_111 : decode prog_24_method_2_code 111 = .ok (.dup2, 1) := by decide +kernel
theorem d12_112 : decode prog_24_method_2_code 112 = .ok (.iaload, 1) := by decide +kernel
theorem d12_113 : decode prog_24_method_2_code 113 = .ok (.iconst 1, 1) := by decide +kernel
theorem d12_114 : decode prog_24_method_2_code 114 = .ok (.iadd, 1) := by decide +kernel
theorem d12_115 : decode prog_24_method_2_code 115 = .ok (.iastore, 1) := by decide +kernel
theorem d12_116 : decode prog_24_method_2_code 116 = .ok (.aload_n 0, 1) := by decide +kernel
theorem d12_117 : decode prog_24_method_2_code 117 = .ok (.getfield 28, 3) := by decide +kernel
theorem d12_120 : decode prog_24_method_2_code 120 = .ok (.iload_n 2, 1) := by decide +kernel
theorem d12_121 : decode prog_24_method_2_code 121 = .ok (.dup2, 1) := by decide +kernel
theorem d12_122 : decode prog_24_method_2_code 122 = .ok (.iaload, 1) := by decide +kernel
theorem d12_123 : decode prog_24_method_2_code 123 = .ok (.iconst 1, 1) := by decide +kernel
theorem d12_124 : decode prog_24_method_2_code 124 = .ok (.iadd, 1) := by decide +kernel
theorem d12_125 : decode prog_24_method_2_code 125 = .ok (.iastore, 1) := by decide +kernel
theorem d12_126 : decode prog_24_method_2_code 126 = .ok (.aload_n 0, 1) := by decide +kernel
theorem d12_127 : decode prog_24_method_2_code 127 = .ok (.dup, 1) := by decide +kernel
theorem d12_128 : decode prog_24_method_2_code 128 = .ok (.getfield 37, 3) := by decide +kernel
theorem d12_131 : decode prog_24_method_2_code 131 = .ok (.dup_x1, 1) := by decide +kernel
theorem d12_132 : decode prog_24_method_2_code 132 = .ok (.iconst 1, 1) := by decide +kernel
theorem d12_133 : decode prog_24_method_2_code 133 = .ok (.iadd, 1) := by decide +kernel
theorem d12_134 : decode prog_24_method_2_code 134 = .ok (.putfield 37, 3) := by decide +kernel
theorem d12_137 : decode prog_24_method_2_code 137 = .ok (.ireturn, 1) := by decide +kernel
set_option maxRecDepth 65536 in
set_option maxHeartbeats 40000000 in
theorem rm12_N (l : Launch) (Z : State) (a0 : Array Value) (hw : ∀ d ∈ tables_1, d.before a0 Z = true) (ws : List Jvm.Cond) (a : Addr) (p1 : Int32) (p2 : Int32) (u_v : Int32) (u_d : Addr) (u_e : Addr) (u_c : Int32) (ds : List Int32) (es : List Int32) (h0 : Heap) (n0 : Nat) (Z0 : n0 ≤ h0.size) (E_a : Exa Z h0 a "com/example/cyclecut/cyclecut/graph/Graph$Builder") (F_a_vertexCount : Fld Z h0 a "com/example/cyclecut/cyclecut/graph/Graph$Builder" "vertexCount" "I" (.int u_v)) (F_a_degree : Fld Z h0 a "com/example/cyclecut/cyclecut/graph/Graph$Builder" "degree" "[I" (.ref u_d)) (F_a_ends : Fld Z h0 a "com/example/cyclecut/cyclecut/graph/Graph$Builder" "ends" "[I" (.ref u_e)) (F_a_edgeCount : Fld Z h0 a "com/example/cyclecut/cyclecut/graph/Graph$Builder" "edgeCount" "I" (.int u_c)) (g_a : n0 ≤ a) (A_u_d : own_IA Z h0 u_d ds) (g_u_d : n0 ≤ u_d) (A_u_e : own_IA Z h0 u_e es) (g_u_e : n0 ≤ u_e) (ne_u_d_u_e : u_d ≠ u_e) (a1 : ¬ p1 < 0) (a2 : p1 < u_v) (b1 : ¬ p2 < 0) (b2 : p2 < u_v) (hg : ¬ ((2 : Int32) * u_c) = (Int32.ofNat es.length)) (c1 : ¬ ((2 : Int32) * u_c) < 0 ∧ ((2 : Int32) * u_c).toNatClampNeg < es.length) (c2 : ¬ (((2 : Int32) * u_c) + (1 : Int32)) < 0 ∧ (((2 : Int32) * u_c) + (1 : Int32)).toNatClampNeg < es.length) (d1 : ¬ p1 < 0 ∧ p1.toNatClampNeg < ds.length) (d2 : ¬ p2 < 0 ∧ p2.toNatClampNeg < ds.length) :
    MetFree l (⟨"com/example/cyclecut/cyclecut/graph/Graph$Builder", "addEdge", "(II)I"⟩ : MethodName) (head1 (Jvm.Cond.code (⟨"com/example/cyclecut/cyclecut/graph/Graph$Builder", "addEdge", "(II)I"⟩ : MethodName) prog_24_method_2_code 3 (some .int) :: ws) ({ frames := 2, cells := 0, slots := 0, locals := 27 } : Room)) (fun aa U => aa = #[(.ref a), (.int p1), (.int p2)] ∧ Z.Warmed39 U.vm ∧ U.heap = h0) (fun _ _ _ _ _ => True) (fun _ U o U' => ∃ v L, o = .returned v ∧ Q_rm12_N Z a p1 p2 u_v u_d u_e u_c ds es h0 n0 v U'.heap L ∧ FrameEnd U o U' L ({ frames := 2, cells := 0, slots := 0, locals := 27 } : Room).cells ({ frames := 2, cells := 0, slots := 0, locals := 27 } : Room).slots) := by
  refine MetFree.of_bodySF (plainFor_of_name own_pn2) hisR ?_
  intro p e s m args below meth c s₁ Bd hml0 hP hK
  obtain ⟨rfl, hZ, hh⟩ := hP
  have hx := Bd.exec
  have hby := Bd.bytes
  have hml : c.maxLocals = 3 := hml0
  have hlk : meth.locks = false := BodyLoose.notSynchronized Bd
  have hown : s.vm.findClass "com/example/cyclecut/cyclecut/graph/Graph$Builder" = some m.cls := findClass_of_methodNamed Bd.named
  have hnm := (name_of_methodNamed Bd.named Bd.method).1
  have X0 : Stand p l e ({ frames := 2, cells := 0, slots := 0, locals := 27 } : Room) s m #[(.ref a), (.int p1), (.int p2)] below meth c s₁ [] 0 0 := Stand.of_body Bd
  have e0 : s₁.heap = h0 := by rw [← hh, Bd.state]; rfl
  have N0 := Fr.nil n0
  show own_Go p e below s (Q_rm12_N Z a p1 p2 u_v u_d u_e u_c ds es h0 n0) 0 0 (s₁.setTop (entryFrame m #[(.ref a), (.int p1), (.int p2)] 3))
  refine own_go (B := s₁.setTop (mkF m 0 #[.val (.ref a), .val (.int p1), .val (.int p2)] [])) (fun tgt cont => (XT.entry rfl).trans cont) ?_
  have ne_a_u_d := own_neA E_a (hw _ (List.mem_of_getElem? (i := 1) rfl)) A_u_d.arr
  have ne_a_u_e := own_neA E_a (hw _ (List.mem_of_getElem? (i := 1) rfl)) A_u_e.arr
  refine own_go (B := s₁.setTop (mkF m 2 #[.val (.ref a), .val (.int p1), .val (.int p2)] [(.ref a), (.int p1)])) (fun tgt cont => ?_) ?_
  · refine XS.iloadN X0.here hx rfl (hb hby d12_0) rfl ?_
    refine XS.aloadN X0.here hx rfl (hb hby d12_1) rfl rfl ?_
    exact cont
  obtain ⟨T1, X1, e1, st1⟩ := getF X0 hx hZ hown (host := "") (Or.inl (hw _ (List.mem_of_getElem? (i := 12) rfl))) Via.refl e0 F_a_vertexCount (g := (mkF m 2 #[.val (.ref a), .val (.int p1), .val (.int p2)] [(.ref a), (.int p1)])) rfl rfl (hb hby d12_2)
  refine own_go (fun tgt cont => st1 tgt cont) ?_
  show own_Go p e below s (Q_rm12_N Z a p1 p2 u_v u_d u_e u_c ds es h0 n0) 0 0 (T1.setTop (mkF m 5 #[.val (.ref a), .val (.int p1), .val (.int p2)] [(.int u_v), (.int p1)]))
  -- pc 5: Objects.checkIndex
  obtain ⟨_, _, ⟨T2, L2, k2, n2⟩, -, X2, ⟨Lc2, hQ2, l2, y2, z2⟩, st2⟩ := Jvm.LawKit.callS X1 hx (y := (⟨"java/util/Objects", "checkIndex", "(II)I"⟩ : MethodName)) hown (mvT hZ (hw _ (List.mem_of_getElem? (i := 90) rfl))) (mvT hZ (hw _ (List.mem_of_getElem? (i := 78) rfl))) (mvT hZ (hw _ (List.mem_of_getElem? (i := 79) rfl))) (mvT hZ (hw _ (List.mem_of_getElem? (i := 80) rfl))) (by decide) (backOf (W := 0) (rm10 l Z a0 hw [] p1 u_v h0 n0 Z0 a1 a2) hZ (hw _ (List.mem_of_getElem? (i := 80) rfl)) (hw _ (List.mem_of_getElem? (i := 79) rfl)) (by decide) (by decide)) (g := (mkF m 5 #[.val (.ref a), .val (.int p1), .val (.int p2)] [(.int u_v), (.int p1)])) rfl (by rw [hml]; rfl) (argsL := [(.int p1), (.int u_v)]) (rest := []) (lenOf own_pd1 rfl) rfl (by show 2 * 0 + _ ≤ _; exact Nat.le_of_eq rfl) (hb hby d12_5) (fun _ _ => ⟨rfl, e1, (by decide : 0 + 0 ≤ _), (by decide : 0 + 0 ≤ _)⟩)
  dsimp only [Pt.U, Pt.locs, Pt.cells, Pt.slots] at X2 l2 y2 z2 st2 hQ2
  subst l2 y2 z2
  obtain ⟨rfl, N2q, e2⟩ := hQ2
  have N2 := Fr.app N0 N2q
  refine own_go (fun tgt cont => st2 tgt cont) ?_
  show own_Go p e below s (Q_rm12_N Z a p1 p2 u_v u_d u_e u_c ds es h0 n0) 0 0 (T2.setTop (mkF m 8 #[.val (.ref a), .val (.int p1), .val (.int p2)] [(.int (own_cx p1 u_v))]))
  refine own_go (B := T2.setTop (mkF m 11 #[.val (.ref a), .val (.int p1), .val (.int p2)] [(.ref a), (.int p2)])) (fun tgt cont => ?_) ?_
  · refine XS.pop X2.here hx rfl (hb hby d12_8) rfl rfl ?_
    refine XS.iloadN X2.here hx rfl (hb hby d12_9) rfl ?_
    refine XS.aloadN X2.here hx rfl (hb hby d12_10) rfl rfl ?_
    exact cont
  obtain ⟨T3, X3, e3, st3⟩ := getF X2 hx hZ hown (host := "") (Or.inl (hw _ (List.mem_of_getElem? (i := 12) rfl))) Via.refl e2 F_a_vertexCount (g := (mkF m 11 #[.val (.ref a), .val (.int p1), .val (.int p2)] [(.ref a), (.int p2)])) rfl rfl (hb hby d12_11)
  refine own_go (fun tgt cont => st3 tgt cont) ?_
  show own_Go p e below s (Q_rm12_N Z a p1 p2 u_v u_d u_e u_c ds es h0 n0) 0 0 (T3.setTop (mkF m 14 #[.val (.ref a), .val (.int p1), .val (.int p2)] [(.int u_v), (.int p2)]))
  -- pc 14: Objects.checkIndex
  obtain ⟨_, _, ⟨T4, L4, k4, n4⟩, -, X4, ⟨Lc4, hQ4, l4, y4, z4⟩, st4⟩ := Jvm.LawKit.callS X3 hx (y := (⟨"java/util/Objects", "checkIndex", "(II)I"⟩ : MethodName)) hown (mvT hZ (hw _ (List.mem_of_getElem? (i := 90) rfl))) (mvT hZ (hw _ (List.mem_of_getElem? (i := 78) rfl))) (mvT hZ (hw _ (List.mem_of_getElem? (i := 79) rfl))) (mvT hZ (hw _ (List.mem_of_getElem? (i := 80) rfl))) (by decide) (backOf (W := 0) (rm10 l Z a0 hw [] p2 u_v h0 n0 Z0 b1 b2) hZ (hw _ (List.mem_of_getElem? (i := 80) rfl)) (hw _ (List.mem_of_getElem? (i := 79) rfl)) (by decide) (by decide)) (g := (mkF m 14 #[.val (.ref a), .val (.int p1), .val (.int p2)] [(.int u_v), (.int p2)])) rfl (by rw [hml]; rfl) (argsL := [(.int p2), (.int u_v)]) (rest := []) (lenOf own_pd1 rfl) rfl (by show 2 * 0 + _ ≤ _; exact Nat.le_of_eq rfl) (hb hby d12_14) (fun _ _ => ⟨rfl, e3, (by decide : 0 + 0 + 0 ≤ _), (by decide : 0 + 0 + 0 ≤ _)⟩)
  dsimp only [Pt.U, Pt.locs, Pt.cells, Pt.slots] at X4 l4 y4 z4 st4 hQ4
  subst l4 y4 z4
  obtain ⟨rfl, N4q, e4⟩ := hQ4
  have N4 := Fr.app N2 N4q
  refine own_go (fun tgt cont => st4 tgt cont) ?_
  show own_Go p e below s (Q_rm12_N Z a p1 p2 u_v u_d u_e u_c ds es h0 n0) 0 0 (T4.setTop (mkF m 17 #[.val (.ref a), .val (.int p1), .val (.int p2)] [(.int (own_cx p2 u_v))]))
  refine own_go (B := T4.setTop (mkF m 20 #[.val (.ref a), .val (.int p1), .val (.int p2)] [(.ref a), (.int (2 : Int32))])) (fun tgt cont => ?_) ?_
  · refine XS.pop X4.here hx rfl (hb hby d12_17) rfl rfl ?_
    refine XT.iconstV X4.here hx rfl (2 : Int32) (hb hby d12_18) rfl ?_
    refine XS.aloadN X4.here hx rfl (hb hby d12_19) rfl rfl ?_
    exact cont
  obtain ⟨T5, X5, e5, st5⟩ := getF X4 hx hZ hown (host := "") (Or.inl (hw _ (List.mem_of_getElem? (i := 24) rfl))) Via.refl e4 F_a_edgeCount (g := (mkF m 20 #[.val (.ref a), .val (.int p1), .val (.int p2)] [(.ref a), (.int (2 : Int32))])) rfl rfl (hb hby d12_20)
  refine own_go (fun tgt cont => st5 tgt cont) ?_
  show own_Go p e below s (Q_rm12_N Z a p1 p2 u_v u_d u_e u_c ds es h0 n0) 0 0 (T5.setTop (mkF m 23 #[.val (.ref a), .val (.int p1), .val (.int p2)] [(.int u_c), (.int (2 : Int32))]))
  refine own_go (B := T5.setTop (mkF m 25 #[.val (.ref a), .val (.int p1), .val (.int p2)] [(.ref a), (.int ((2 : Int32) * u_c))])) (fun tgt cont => ?_) ?_
  · refine XS.imul X5.here hx rfl (hb hby d12_23) rfl ?_
    refine XS.aloadN X5.here hx rfl (hb hby d12_24) rfl rfl ?_
    exact cont
  obtain ⟨T6, X6, e6, st6⟩ := getF X5 hx hZ hown (host := "") (Or.inl (hw _ (List.mem_of_getElem? (i := 10) rfl))) Via.refl e5 F_a_ends (g := (mkF m 25 #[.val (.ref a), .val (.int p1), .val (.int p2)] [(.ref a), (.int ((2 : Int32) * u_c))])) rfl rfl (hb hby d12_25)
  refine own_go (fun tgt cont => st6 tgt cont) ?_
  show own_Go p e below s (Q_rm12_N Z a p1 p2 u_v u_d u_e u_c ds es h0 n0) 0 0 (T6.setTop (mkF m 28 #[.val (.ref a), .val (.int p1), .val (.int p2)] [(.ref u_e), (.int ((2 : Int32) * u_c))]))
  refine own_go (B := T6.setTop (mkF m 81 #[.val (.ref a), .val (.int p1), .val (.int p2)] [(.ref a)])) (fun tgt cont => ?_) ?_
  · refine own_lenIA X6 hx hZ e6 A_u_e (g := (mkF m 28 #[.val (.ref a), .val (.int p1), .val (.int p2)] [(.ref u_e), (.int ((2 : Int32) * u_c))])) rfl rfl (hb hby d12_28) ?_
    refine XS.icmpYes X6.here hx rfl (pc0 := 29) (pc' := 80) rfl (hb hby d12_29) rfl (XT.ii_ne_t hg) (by decide) (by decide) ?_
    refine XS.aloadN X6.here hx rfl (hb hby d12_80) rfl rfl ?_
    exact cont
  obtain ⟨T7, X7, e7, st7⟩ := getF X6 hx hZ hown (host := "") (Or.inl (hw _ (List.mem_of_getElem? (i := 10) rfl))) Via.refl e6 F_a_ends (g := (mkF m 81 #[.val (.ref a), .val (.int p1), .val (.int p2)] [(.ref a)])) rfl rfl (hb hby d12_81)
  refine own_go (fun tgt cont => st7 tgt cont) ?_
  show own_Go p e below s (Q_rm12_N Z a p1 p2 u_v u_d u_e u_c ds es h0 n0) 0 0 (T7.setTop (mkF m 84 #[.val (.ref a), .val (.int p1), .val (.int p2)] [(.ref u_e)]))
  refine own_go (B := T7.setTop (mkF m 86 #[.val (.ref a), .val (.int p1), .val (.int p2)] [(.ref a), (.int (2 : Int32)), (.ref u_e)])) (fun tgt cont => ?_) ?_
  · refine XT.iconstV X7.here hx rfl (2 : Int32) (hb hby d12_84) rfl ?_
    refine XS.aloadN X7.here hx rfl (hb hby d12_85) rfl rfl ?_
    exact cont
  obtain ⟨T8, X8, e8, st8⟩ := getF X7 hx hZ hown (host := "") (Or.inl (hw _ (List.mem_of_getElem? (i := 24) rfl))) Via.refl e7 F_a_edgeCount (g := (mkF m 86 #[.val (.ref a), .val (.int p1), .val (.int p2)] [(.ref a), (.int (2 : Int32)), (.ref u_e)])) rfl rfl (hb hby d12_86)
  refine own_go (fun tgt cont => st8 tgt cont) ?_
  show own_Go p e below s (Q_rm12_N Z a p1 p2 u_v u_d u_e u_c ds es h0 n0) 0 0 (T8.setTop (mkF m 89 #[.val (.ref a), .val (.int p1), .val (.int p2)] [(.int u_c), (.int (2 : Int32)), (.ref u_e)]))
  refine own_go (B := T8.setTop (mkF m 91 #[.val (.ref a), .val (.int p1), .val (.int p2)] [(.int p1), (.int ((2 : Int32) * u_c)), (.ref u_e)])) (fun tgt cont => ?_) ?_
  · refine XS.imul X8.here hx rfl (hb hby d12_89) rfl ?_
    refine XS.iloadN X8.here hx rfl (hb hby d12_90) rfl ?_
    exact cont
  obtain ⟨T9, h9, X9, e9, W9, A9, st9⟩ := own_stIA X8 hx hZ e8 A_u_e (j := ((2 : Int32) * u_c)) (x := p1) c1 (g := (mkF m 91 #[.val (.ref a), .val (.int p1), .val (.int p2)] [(.int p1), (.int ((2 : Int32) * u_c)), (.ref u_e)])) rfl rfl (hb hby d12_91)
  have N9 := Fr.snoc X9 N4 g_u_e
  have kk9 : Keep h0 h9 [a, u_d, u_e] := (Keep.refl h0 [a, u_d, u_e]).wr W9 (Or.inl (List.mem_of_getElem? (i := 2) rfl))
  have zp9 : n0 ≤ h9.size := Nat.le_trans Z0 kk9.1
  refine own_go (fun tgt cont => st9 tgt cont) ?_
  show own_Go p e below s (Q_rm12_N Z a p1 p2 u_v u_d u_e u_c ds es h0 n0) 0 0 (T9.setTop (mkF m 92 #[.val (.ref a), .val (.int p1), .val (.int p2)] []))
  refine own_go (B := T9.setTop (mkF m 93 #[.val (.ref a), .val (.int p1), .val (.int p2)] [(.ref a)])) (fun tgt cont => ?_) ?_
  · refine XS.aloadN X9.here hx rfl (hb hby d12_92) rfl rfl ?_
    exact cont
  have f11 := (F_a_ends.other W9 (Or.inl ne_a_u_e))
  obtain ⟨T10, X10, e10, st10⟩ := getF X9 hx hZ hown (host := "") (Or.inl (hw _ (List.mem_of_getElem? (i := 10) rfl))) Via.refl e9 f11 (g := (mkF m 93 #[.val (.ref a), .val (.int p1), .val (.int p2)] [(.ref a)])) rfl rfl (hb hby d12_93)
  refine own_go (fun tgt cont => st10 tgt cont) ?_
  show own_Go p e below s (Q_rm12_N Z a p1 p2 u_v u_d u_e u_c ds es h0 n0) 0 0 (T10.setTop (mkF m 96 #[.val (.ref a), .val (.int p1), .val (.int p2)] [(.ref u_e)]))
  refine own_go (B := T10.setTop (mkF m 98 #[.val (.ref a), .val (.int p1), .val (.int p2)] [(.ref a), (.int (2 : Int32)), (.ref u_e)])) (fun tgt cont => ?_) ?_
  · refine XT.iconstV X10.here hx rfl (2 : Int32) (hb hby d12_96) rfl ?_
    refine XS.aloadN X10.here hx rfl (hb hby d12_97) rfl rfl ?_
    exact cont
  have f13 := (F_a_edgeCount.other W9 (Or.inl ne_a_u_e))
  obtain ⟨T12, X12, e12, st12⟩ := getF X10 hx hZ hown (host := "") (Or.inl (hw _ (List.mem_of_getElem? (i := 24) rfl))) Via.refl e10 f13 (g := (mkF m 98 #[.val (.ref a), .val (.int p1), .val (.int p2)] [(.ref a), (.int (2 : Int32)), (.ref u_e)])) rfl rfl (hb hby d12_98)
  refine own_go (fun tgt cont => st12 tgt cont) ?_
  show own_Go p e below s (Q_rm12_N Z a p1 p2 u_v u_d u_e u_c ds es h0 n0) 0 0 (T12.setTop (mkF m 101 #[.val (.ref a), .val (.int p1), .val (.int p2)] [(.int u_c), (.int (2 : Int32)), (.ref u_e)]))
  refine own_go (B := T12.setTop (mkF m 105 #[.val (.ref a), .val (.int p1), .val (.int p2)] [(.int p2), (.int (((2 : Int32) * u_c) + (1 : Int32))), (.ref u_e)])) (fun tgt cont => ?_) ?_
  · refine XS.imul X12.here hx rfl (hb hby d12_101) rfl ?_
    refine XT.iconstV X12.here hx rfl (1 : Int32) (hb hby d12_102) rfl ?_
    refine XS.iadd X12.here hx rfl (hb hby d12_103) rfl ?_
    refine XS.iloadN X12.here hx rfl (hb hby d12_104) rfl ?_
    exact cont
  obtain ⟨T14, h14, X14, e14, W14, A14, st14⟩ := own_stIA X12 hx hZ e12 A9 (j := (((2 : Int32) * u_c) + (1 : Int32))) (x := p2) ⟨c2.1, by rw [List.length_set]; exact c2.2⟩ (g := (mkF m 105 #[.val (.ref a), .val (.int p1), .val (.int p2)] [(.int p2), (.int (((2 : Int32) * u_c) + (1 : Int32))), (.ref u_e)])) rfl rfl (hb hby d12_105)
  have N14 := Fr.snoc X14 N9 g_u_e
  have kk14 : Keep h0 h14 [a, u_d, u_e] := kk9.wr W14 (Or.inl (List.mem_of_getElem? (i := 2) rfl))
  have zp14 : n0 ≤ h14.size := Nat.le_trans Z0 kk14.1
  refine own_go (fun tgt cont => st14 tgt cont) ?_
  show own_Go p e below s (Q_rm12_N Z a p1 p2 u_v u_d u_e u_c ds es h0 n0) 0 0 (T14.setTop (mkF m 106 #[.val (.ref a), .val (.int p1), .val (.int p2)] []))
  refine own_go (B := T14.setTop (mkF m 107 #[.val (.ref a), .val (.int p1), .val (.int p2)] [(.ref a)])) (fun tgt cont => ?_) ?_
  · refine XS.aloadN X14.here hx rfl (hb hby d12_106) rfl rfl ?_
    exact cont
  have f16 := ((F_a_degree.other W9 (Or.inl ne_a_u_e)).other W14 (Or.inl ne_a_u_e))
  obtain ⟨T15, X15, e15, st15⟩ := getF X14 hx hZ hown (host := "") (Or.inl (hw _ (List.mem_of_getElem? (i := 14) rfl))) Via.refl e14 f16 (g := (mkF m 107 #[.val (.ref a), .val (.int p1), .val (.int p2)] [(.ref a)])) rfl rfl (hb hby d12_107)
  refine own_go (fun tgt cont => st15 tgt cont) ?_
  show own_Go p e below s (Q_rm12_N Z a p1 p2 u_v u_d u_e u_c ds es h0 n0) 0 0 (T15.setTop (mkF m 110 #[.val (.ref a), .val (.int p1), .val (.int p2)] [(.ref u_d)]))
  have f17 := ((A_u_d.other W9 ne_u_d_u_e).other W14 ne_u_d_u_e)
  refine own_go (B := T15.setTop (mkF m 115 #[.val (.ref a), .val (.int p1), .val (.int p2)] [(.int ((ds.getD p1.toNatClampNeg 0) + (1 : Int32))), (.int p1), (.ref u_d)])) (fun tgt cont => ?_) ?_
  · refine XS.iloadN X15.here hx rfl (hb hby d12_110) rfl ?_
    refine XT.dup2 X15.here hx rfl (hb hby d12_111) rfl rfl rfl ?_
    refine own_ldIA X15 hx hZ e15 f17 (j := p1) d1 (g := (mkF m 112 #[.val (.ref a), .val (.int p1), .val (.int p2)] [(.int p1), (.ref u_d), (.int p1), (.ref u_d)])) rfl rfl (hb hby d12_112) ?_
    refine XT.iconstV X15.here hx rfl (1 : Int32) (hb hby d12_113) rfl ?_
    refine XS.iadd X15.here hx rfl (hb hby d12_114) rfl ?_
    exact cont
  obtain ⟨T18, h18, X18, e18, W18, A18, st18⟩ := own_stIA X15 hx hZ e15 f17 (j := p1) (x := ((ds.getD p1.toNatClampNeg 0) + (1 : Int32))) d1 (g := (mkF m 115 #[.val (.ref a), .val (.int p1), .val (.int p2)] [(.int ((ds.getD p1.toNatClampNeg 0) + (1 : Int32))), (.int p1), (.ref u_d)])) rfl rfl (hb hby d12_115)
  have N18 := Fr.snoc X18 N14 g_u_d
  have kk18 : Keep h0 h18 [a, u_d, u_e] := kk14.wr W18 (Or.inl (List.mem_of_getElem? (i := 1) rfl))
  have zp18 : n0 ≤ h18.size := Nat.le_trans Z0 kk18.1
  refine own_go (fun tgt cont => st18 tgt cont) ?_
  show own_Go p e below s (Q_rm12_N Z a p1 p2 u_v u_d u_e u_c ds es h0 n0) 0 0 (T18.setTop (mkF m 116 #[.val (.ref a), .val (.int p1), .val (.int p2)] []))
  refine own_go (B := T18.setTop (mkF m 117 #[.val (.ref a), .val (.int p1), .val (.int p2)] [(.ref a)])) (fun tgt cont => ?_) ?_
  · refine XS.aloadN X18.here hx rfl (hb hby d12_116) rfl rfl ?_
    exact cont
  have f20 := (f16.other W18 (Or.inl ne_a_u_d))
  obtain ⟨T19, X19, e19, st19⟩ := getF X18 hx hZ hown (host := "") (Or.inl (hw _ (List.mem_of_getElem? (i := 14) rfl))) Via.refl e18 f20 (g := (mkF m 117 #[.val (.ref a), .val (.int p1), .val (.int p2)] [(.ref a)])) rfl rfl (hb hby d12_117)
  refine own_go (fun tgt cont => st19 tgt cont) ?_
  show own_Go p e below s (Q_rm12_N Z a p1 p2 u_v u_d u_e u_c ds es h0 n0) 0 0 (T19.setTop (mkF m 120 #[.val (.ref a), .val (.int p1), .val (.int p2)] [(.ref u_d)]))
  refine own_go (B := T19.setTop (mkF m 125 #[.val (.ref a), .val (.int p1), .val (.int p2)] [(.int (((ds.set p1.toNatClampNeg ((ds.getD p1.toNatClampNeg 0) + (1 : Int32))).getD p2.toNatClampNeg 0) + (1 : Int32))), (.int p2), (.ref u_d)])) (fun tgt cont => ?_) ?_
  · refine XS.iloadN X19.here hx rfl (hb hby d12_120) rfl ?_
    refine XT.dup2 X19.here hx rfl (hb hby d12_121) rfl rfl rfl ?_
    refine own_ldIA X19 hx hZ e19 A18 (j := p2) ⟨d2.1, by rw [List.length_set]; exact d2.2⟩ (g := (mkF m 122 #[.val (.ref a), .val (.int p1), .val (.int p2)] [(.int p2), (.ref u_d), (.int p2), (.ref u_d)])) rfl rfl (hb hby d12_122) ?_
    refine XT.iconstV X19.here hx rfl (1 : Int32) (hb hby d12_123) rfl ?_
    refine XS.iadd X19.here hx rfl (hb hby d12_124) rfl ?_
    exact cont
  obtain ⟨T21, h21, X21, e21, W21, A21, st21⟩ := own_stIA X19 hx hZ e19 A18 (j := p2) (x := (((ds.set p1.toNatClampNeg ((ds.getD p1.toNatClampNeg 0) + (1 : Int32))).getD p2.toNatClampNeg 0) + (1 : Int32))) ⟨d2.1, by rw [List.length_set]; exact d2.2⟩ (g := (mkF m 125 #[.val (.ref a), .val (.int p1), .val (.int p2)] [(.int (((ds.set p1.toNatClampNeg ((ds.getD p1.toNatClampNeg 0) + (1 : Int32))).getD p2.toNatClampNeg 0) + (1 : Int32))), (.int p2), (.ref u_d)])) rfl rfl (hb hby d12_125)
  have N21 := Fr.snoc X21 N18 g_u_d
  have kk21 : Keep h0 h21 [a, u_d, u_e] := kk18.wr W21 (Or.inl (List.mem_of_getElem? (i := 1) rfl))
  have zp21 : n0 ≤ h21.size := Nat.le_trans Z0 kk21.1
  refine own_go (fun tgt cont => st21 tgt cont) ?_
  show own_Go p e below s (Q_rm12_N Z a p1 p2 u_v u_d u_e u_c ds es h0 n0) 0 0 (T21.setTop (mkF m 126 #[.val (.ref a), .val (.int p1), .val (.int p2)] []))
  refine own_go (B := T21.setTop (mkF m 128 #[.val (.ref a), .val (.int p1), .val (.int p2)] [(.ref a), (.ref a)])) (fun tgt cont => ?_) ?_
  · refine XS.aloadN X21.here hx rfl (hb hby d12_126) rfl rfl ?_
    refine XS.dup X21.here hx rfl (hb hby d12_127) rfl rfl ?_
    exact cont
  have f23 := (((f13.other W14 (Or.inl ne_a_u_e)).other W18 (Or.inl ne_a_u_d)).other W21 (Or.inl ne_a_u_d))
  obtain ⟨T22, X22, e22, st22⟩ := getF X21 hx hZ hown (host := "") (Or.inl (hw _ (List.mem_of_getElem? (i := 24) rfl))) Via.refl e21 f23 (g := (mkF m 128 #[.val (.ref a), .val (.int p1), .val (.int p2)] [(.ref a), (.ref a)])) rfl rfl (hb hby d12_128)
  refine own_go (fun tgt cont => st22 tgt cont) ?_
  show own_Go p e below s (Q_rm12_N Z a p1 p2 u_v u_d u_e u_c ds es h0 n0) 0 0 (T22.setTop (mkF m 131 #[.val (.ref a), .val (.int p1), .val (.int p2)] [(.int u_c), (.ref a)]))
  refine own_go (B := T22.setTop (mkF m 134 #[.val (.ref a), .val (.int p1), .val (.int p2)] [(.int (u_c + (1 : Int32))), (.ref a), (.int u_c)])) (fun tgt cont => ?_) ?_
  · refine XS.dupX1 X22.here hx rfl (hb hby d12_131) rfl rfl rfl ?_
    refine XT.iconstV X22.here hx rfl (1 : Int32) (hb hby d12_132) rfl ?_
    refine XS.iadd X22.here hx rfl (hb hby d12_133) rfl ?_
    exact cont
  have f25 := ((((E_a.wr W9).wr W14).wr W18).wr W21)
  obtain ⟨T24, h24, X24, e24, W24, st24⟩ := putF X22 hx hZ hown (host := "") (Or.inl (hw _ (List.mem_of_getElem? (i := 24) rfl))) Via.refl e22 f23 f25 (Or.inl (hw _ (List.mem_of_getElem? (i := 25) rfl))) (hw _ (List.mem_of_getElem? (i := 1) rfl)) (ty := .int) (by decide) rfl rfl (g := (mkF m 134 #[.val (.ref a), .val (.int p1), .val (.int p2)] [(.int (u_c + (1 : Int32))), (.ref a), (.int u_c)])) rfl rfl (hb hby d12_134)
  have fw24 := f23.same W24
  have N24 := Fr.snoc X24 N21 g_a
  have kk24 : Keep h0 h24 [a, u_d, u_e] := kk21.wr W24 (Or.inl (List.mem_of_getElem? (i := 0) rfl))
  have zp24 : n0 ≤ h24.size := Nat.le_trans Z0 kk24.1
  refine own_go (fun tgt cont => st24 tgt cont) ?_
  show own_Go p e below s (Q_rm12_N Z a p1 p2 u_v u_d u_e u_c ds es h0 n0) 0 0 (T24.setTop (mkF m 137 #[.val (.ref a), .val (.int p1), .val (.int p2)] [(.int u_c)]))
  refine own_end X24 (v := some (.int u_c)) (fun h => by rw [Bd.returns] at h; cases h) hlk ?_ (by decide) (by decide) (fun fs hl => retI X24 hx Bd.returns (hb hby d12_137) hl)
  have f26 := (f25.wr W24)
  have f27 := (((((F_a_vertexCount.other W9 (Or.inl ne_a_u_e)).other W14 (Or.inl ne_a_u_e)).other W18 (Or.inl ne_a_u_d)).other W21 (Or.inl ne_a_u_d)).other W24 (Or.inr (slot_ne (t := .int) (t' := .int) (Or.inr (hw _ (List.mem_of_getElem? (i := 13) rfl))) (Or.inl (hw _ (List.mem_of_getElem? (i := 25) rfl))) (by decide) (by decide) (by decide))))
  have f28 := ((f20.other W21 (Or.inl ne_a_u_d)).other W24 (Or.inr (slot_ne (t := (.array .int)) (t' := .int) (Or.inr (hw _ (List.mem_of_getElem? (i := 15) rfl))) (Or.inl (hw _ (List.mem_of_getElem? (i := 25) rfl))) (by decide) (by decide) (by decide))))
  have f29 := ((((f11.other W14 (Or.inl ne_a_u_e)).other W18 (Or.inl ne_a_u_d)).other W21 (Or.inl ne_a_u_d)).other W24 (Or.inr (slot_ne (t := (.array .int)) (t' := .int) (Or.inl (hw _ (List.mem_of_getElem? (i := 11) rfl))) (Or.inl (hw _ (List.mem_of_getElem? (i := 25) rfl))) (by decide) (by decide) (by decide))))
  have f30 := (A21.other W24 (Ne.symm ne_a_u_d))
  have f31 := (((A14.other W18 (Ne.symm ne_u_d_u_e)).other W21 (Ne.symm ne_u_d_u_e)).other W24 (Ne.symm ne_a_u_e))
  rw [e24]
  exact ⟨rfl, N24, kk24, f26, f27, f28, f29, (by unfold own_ae_edgeCount; exact fw24), (by unfold own_ae_ds; exact f30), (by unfold own_ae_es; exact f31)⟩
def own_fsL (ds : List Int32) : Nat → List Int32 → List Int32
  | 0, fs => fs
  | v + 1, fs => (own_fsL ds v fs).set (v + 1) ((own_fsL ds v fs).getD v 0 + ds.getD v 0)
theorem own_fsL_len (ds : List Int32) (v : Nat) (fs : List Int32) : (own_fsL ds v fs).length = fs.length := by
  induction v with
  | zero => rfl
  | succ v ih => rw [own_fsL, List.length_set, ih]
def own_ln (es n0 : List Int32) : Nat → List Int32
  | 0 => n0
  | i + 1 => (own_ln es n0 i).set (es.getD i 0).toNatClampNeg ((own_ln es n0 i).getD (es.getD i 0).toNatClampNeg 0 + (1 : Int32))
def own_sl (es n0 : List Int32) (i : Nat) : Int32 := (own_ln es n0 i).getD (es.getD i 0).toNatClampNeg 0
def own_l1 (es n0 z : List Int32) : Nat → List Int32
  | 0 => z
  | i + 1 => (own_l1 es n0 z i).set ((own_ln es n0 i).getD (es.getD i 0).toNatClampNeg 0).toNatClampNeg (es.getD (Int32.ofNat i ^^^ (1 : Int32)).toNatClampNeg 0)
def own_l2 (es n0 z : List Int32) : Nat → List Int32
  | 0 => z
  | i + 1 => (own_l2 es n0 z i).set ((own_ln es n0 i).getD (es.getD i 0).toNatClampNeg 0).toNatClampNeg (Int32.ofNat i / (2 : Int32))
theorem own_ln_len (es n0 : List Int32) (i : Nat) : (own_ln es n0 i).length = n0.length := by
  induction i with
  | zero => rfl
  | succ i ih => rw [own_ln, List.length_set, ih]
theorem own_l1_len (es n0 z : List Int32) (i : Nat) : (own_l1 es n0 z i).length = z.length := by
  induction i with
  | zero => rfl
  | succ i ih => rw [own_l1, List.length_set, ih]
theorem own_l2_len (es n0 z : List Int32) (i : Nat) : (own_l2 es n0 z i).length = z.length := by
  induction i with
  | zero => rfl
  | succ i ih => rw [own_l2, List.length_set, ih]
def own_GB (es n0 : List Int32) : Prop := ∀ i, i < es.length → (¬ es.getD i 0 < 0 ∧ (es.getD i 0).toNatClampNeg < n0.length) ∧ (¬ (own_ln es n0 i).getD (es.getD i 0).toNatClampNeg 0 < 0 ∧ ((own_ln es n0 i).getD (es.getD i 0).toNatClampNeg 0).toNatClampNeg < es.length) ∧ (¬ (Int32.ofNat i ^^^ (1 : Int32)) < 0 ∧ (Int32.ofNat i ^^^ (1 : Int32)).toNatClampNeg < es.length)
theorem own_ltP {i : Nat} {p : Int32} (h : Int32.ofNat i < p) (hn : ¬ p < 0) (hi : i ≤ p.toNatClampNeg) : i < p.toNatClampNeg := by
  have r := rng32 p
  have e0 : (0 : Int32).toInt = 0 := rfl
  rw [Int32.lt_iff_toInt_lt, e0] at hn
  rw [Int32.toNatClampNeg] at *
  rw [Int32.lt_iff_toInt_lt, own_toI (by omega)] at h
  omega
theorem own_geP {i : Nat} {p : Int32} (h : ¬ Int32.ofNat i < p) (hn : ¬ p < 0) (hi : i ≤ p.toNatClampNeg) : i = p.toNatClampNeg := by
  have r := rng32 p
  have e0 : (0 : Int32).toInt = 0 := rfl
  rw [Int32.lt_iff_toInt_lt, e0] at hn
  rw [Int32.toNatClampNeg] at *
  rw [Int32.lt_iff_toInt_lt, own_toI (by omega)] at h
  omega
theorem own_geL {i n : Nat} (h : ¬ Int32.ofNat i < Int32.ofNat n) (hn : n < 2147483648) (hi : i ≤ n) : i = n := Nat.le_antisymm hi (own_ofNat_nlt h hn hi)
theorem own_p1i {p : Int32} (hn : ¬ p < 0) {k : Nat} (h8 : p.toNatClampNeg ≤ k) (hk : k ≤ 32) : (p + 1).toInt = (p.toNatClampNeg : Int) + 1 := by
  have a := c_iadd p 1
  have r := rng32 (p + 1)
  have e1 : (1 : Int32).toInt = 1 := rfl
  have e0 : (0 : Int32).toInt = 0 := rfl
  rw [Int32.lt_iff_toInt_lt, e0] at hn
  rw [Int32.toNatClampNeg] at *
  rw [e1] at a
  generalize p + 1 = z at *
  omega
theorem own_nnL {n : Nat} (h : n < 2147483648) : ¬ Int32.ofNat n < 0 := by
  have e0 : (0 : Int32).toInt = 0 := rfl
  rw [Int32.lt_iff_toInt_lt, own_toI h, e0]; omega
theorem own_capL {n : Nat} (h : n < 2147483648) (h32 : n ≤ 32) : (Int32.ofNat n).toNatClampNeg ≤ 32 := by rw [own_toN h]; exact h32
theorem own_repL {n : Nat} (h : n < 2147483648) : (List.replicate (Int32.ofNat n).toNatClampNeg (0 : Int32)) = List.replicate n 0 := by rw [own_toN h]
theorem own_p1n {p : Int32} (hn : ¬ p < 0) (h8 : p.toNatClampNeg ≤ 8) : ¬ (p + (1 : Int32)) < 0 := by
  have q := own_p1i hn h8 (by decide)
  have e0 : (0 : Int32).toInt = 0 := rfl
  rw [Int32.lt_iff_toInt_lt, q, e0]; omega
theorem own_p1c {p : Int32} (hn : ¬ p < 0) (h8 : p.toNatClampNeg ≤ 8) : (p + (1 : Int32)).toNatClampNeg ≤ 8 + 1 := by
  have q := own_p1i hn h8 (by decide)
  show (p + (1 : Int32)).toInt.toNat ≤ 8 + 1
  rw [q]; omega
theorem own_p1l {p : Int32} (hn : ¬ p < 0) (h8 : p.toNatClampNeg ≤ 8) : (List.replicate (p + (1 : Int32)).toNatClampNeg (0 : Int32)) = List.replicate (p.toNatClampNeg + 1) 0 := by
  have q := own_p1i hn h8 (by decide)
  have e : (p + (1 : Int32)).toNatClampNeg = p.toNatClampNeg + 1 := by
    show (p + (1 : Int32)).toInt.toNat = _
    rw [q]; omega
  rw [e]
theorem own_fsL_len2 (ds : List Int32) (v : Nat) (n : Nat) : (own_fsL ds v (List.replicate n 0)).length = n := by rw [own_fsL_len, List.length_replicate]
theorem own_cpd {p : Int32} {fs : List Int32} (hn : ¬ p < 0) (hl : fs.length = p.toNatClampNeg + 1) (h8 : p.toNatClampNeg ≤ 8) : ¬ p = Int32.ofNat fs.length := by
  intro e
  have q := congrArg Int32.toInt e
  rw [own_toI (by omega), hl] at q
  have r := rng32 p
  have t : p.toNatClampNeg = p.toInt.toNat := rfl
  omega

def Q_rm6 (Z : State) (a : Addr) (p1 : Int32) (r_e : Addr) (r_d : Addr) (es : List Int32) (ds : List Int32) (h0 : Heap) (n0 : Nat) (v : Option Value) (h : Heap) (L : List Loc) : Prop := ∃ nb0 nb1 nb2 : Addr, v = none ∧ Fr n0 L ∧ Keep h0 h [a] ∧ Exa Z h a "com/example/cyclecut/cyclecut/graph/Graph" ∧ Fld Z h a "com/example/cyclecut/cyclecut/graph/Graph" "vertexCount" "I" (.int p1) ∧ Fld Z h a "com/example/cyclecut/cyclecut/graph/Graph" "ends" "[I" (.ref r_e) ∧ Fld Z h a "com/example/cyclecut/cyclecut/graph/Graph" "firstSlot" "[I" (.ref nb0) ∧ Fld Z h a "com/example/cyclecut/cyclecut/graph/Graph" "slotNeighbor" "[I" (.ref nb1) ∧ Fld Z h a "com/example/cyclecut/cyclecut/graph/Graph" "slotEdge" "[I" (.ref nb2) ∧ h0.size ≤ nb0 ∧ own_IA Z h nb0 (own_fsL ds p1.toNatClampNeg (List.replicate (p1.toNatClampNeg + 1) 0)) ∧ Exa Z h nb0 "[I" ∧ h0.size ≤ nb1 ∧ own_IA Z h nb1 (own_l1 es (own_cof_l p1 (own_fsL ds p1.toNatClampNeg (List.replicate (p1.toNatClampNeg + 1) 0))) (List.replicate es.length 0) es.length) ∧ Exa Z h nb1 "[I" ∧ h0.size ≤ nb2 ∧ own_IA Z h nb2 (own_l2 es (own_cof_l p1 (own_fsL ds p1.toNatClampNeg (List.replicate (p1.toNatClampNeg + 1) 0))) (List.replicate es.length 0) es.length) ∧ Exa Z h nb2 "[I" ∧ nb0 ≠ nb1 ∧ nb0 ≠ nb2 ∧ nb1 ≠ nb2
theorem own_pn4 : plainName "com/example/cyclecut/cyclecut/graph/Graph" = true := by first | (simp [plainName, overriddenIn]; done) | decide +kernel
theorem own_pd2 : parseMethodDescriptor "([II)[I" = some ⟨[(.array .int), .int], some (.array .int)⟩ := by decide +kernel
theorem d6_0 : decode prog_23_method_1_code 0 = .ok (.aload_n 0, 1) := by decide +kernel
theorem d6_1 : decode prog_23_method_1_code 1 = .ok (.invokespecial 1, 3) := by decide +kernel
theorem d6_4 : decode prog_23_method_1_code 4 = .ok (.aload_n 0, 1) := by decide +kernel
theorem d6_5 : decode prog_23_method_1_code 5 = .ok (.iload_n 1, 1) := by decide +kernel
theorem d6_6 : decode prog_23_method_1_code 6 = .ok (.putfield 7, 3) := by decide +kernel
theorem d6_9 : decode prog_23_method_1_code 9 = .ok (.aload_n 0, 1) := by decide +kernel
theorem d6_10 : decode prog_23_method_1_code 10 = .ok (.aload_n 2, 1) := by decide +kernel
theorem d6_11 : decode prog_23_method_1_code 11 = .ok (.putfield 13, 3) := by decide +kernel
theorem d6_14 : decode prog_23_method_1_code 14 = .ok (.aload_n 0, 1) := by decide +kernel
theorem d6_15 : decode prog_23_method_1_code 15 = .ok (.iload_n 1, 1) := by decide +kernel
theorem d6_16 : decode prog_23_method_1_code 16 = .ok (.iconst 1, 1) := by decide +kernel
theorem d6_17 : decode prog_23_method_1_code 17 = .ok (.iadd, 1) := by decide +kernel
theorem d6_18 : decode prog_23_method_1_code 18 = .ok (.newarray .int, 2) := by decide +kernel
theorem d6_20 : decode prog_23_method_1_code 20 = .ok (.putfield 17, 3) := by decide +kernel
theorem d6_23 : decode prog_23_method_1_code 23 = .ok (.iconst 0, 1) := by decide +kernel
theorem d6_24 : decode prog_23_method_1_code 24 = .ok (.istore 4, 2) := by decide +kernel
theorem d6_26 : decode prog_23_method_1_code 26 = .ok (.iload 4, 2) := by decide +kernel
theorem d6_28 : decode prog_23_method_1_code 28 = .ok (.iload_n 1, 1) := by decide +kernel
theorem d6_29 : decode prog_23_method_1_code 29 = .ok (.if_icmp .ge 30, 3) := by decide +kernel
theorem d6_32 : decode prog_23_method_1_code 32 = .ok (.aload_n 0, 1) := by decide +kernel
theorem d6_33 : decode prog_23_method_1_code 33 = .ok (.getfield 17, 3) := by decide +kernel
theorem d6_36 : decode prog_23_method_1_code 36 = .ok (.iload 4, 2) := by decide +kernel
theorem d6_38 : decode prog_23_method_1_code 38 = .ok (.iconst 1, 1) := by decide +kernel
theorem d6_39 : decode prog_23_method_1_code 39 = .ok (.iadd, 1) := by decide +kernel
theorem d6_40 : decode prog_23_method_1_code 40 = .ok (.aload_n 0, 1) := by decide +kernel
theorem d6_41 : decode prog_23_method_1_code 41 = .ok (.getfield 17, 3) := by decide +kernel
theorem d6_44 : decode prog_23_method_1_code 44 = .ok (.iload 4, 2) := by decide +kernel
theorem d6_46 : decode prog_23_method_1_code 46 = .ok (.iaload, 1) := by decide +kernel
theorem d6_47 : decode prog_23_method_1_code 47 = .ok (.aload_n 3, 1) := by decide +kernel
theorem d6_48 : decode prog_23_method_1_code 48 = .ok (.iload 4, 2) := by decide +kernel
theorem d6_50 : decode prog_23_method_1_code 50 = .ok (.iaload, 1) := by decide +kernel
theorem d6_51 : decode prog_23_method_1_code 51 = .ok (.iadd, 1) := by decide +kernel
theorem d6_52 : decode prog_23_method_1_code 52 = .ok (.iastore, 1) := by decide +kernel
theorem d6_53 : decode prog_23_method_1_code 53 = .ok (.iinc 4 1, 3) := by decide +kernel
theorem d6_56 : decode prog_23_method_1_code 56 = .ok (.goto (-30), 3) := by decide +kernel
theorem d6_59 : decode prog_23_method_1_code 59 = .ok (.aload_n 0, 1) := by decide +kernel
theorem d6_60 : decode prog_23_method_1_code 60 = .ok (.aload_n 2, 1) := by decide +kernel
theorem d6_61 : decode prog_23_method_1_code 61 = .ok (.arraylength, 1) := by decide +kernel
theorem d6_62 : decode prog_23_method_1_code 62 = .ok (.newarray .int, 2) := by decide +kernel
theorem d6_64 : decode prog_23_method_1_code 64 = .ok (.putfield 20, 3) := by decide +kernel
theorem d6_67 : decode prog_23_method_1_code 67 = .ok (.aload_n 0, 1) := by decide +kernel
theorem d6_68 : decode prog_23_method_1_code 68 = .ok (.aload_n 2, 1) := by decide +kernel
theorem d6_69 : decode prog_23_method_1_code 69 = .ok (.arraylength, 1) := by decide +kernel
theorem d6_70 : decode prog_23_method_1_code 70 = .ok (.newarray .int, 2) := by decide +kernel
theorem d6_72 : decode prog_23_method_1_code 72 = .ok (.putfield 23, 3) := by decide +kernel
theorem d6_75 : decode prog_23_method_1_code 75 = .ok (.aload_n 0, 1) := by decide +kernel
theorem d6_76 : decode prog_23_method_1_code 76 = .ok (.getfield 17, 3) := by decide +kernel
theorem d6_79 : decode prog_23_method_1_code 79 = .ok (.iload_n 1, 1) := by decide +kernel
theorem d6_80 : decode prog_23_method_1_code 80 = .ok (.invokestatic 26, 3) := by decide +kernel
theorem d6_83 : decode prog_23_method_1_code 83 = .ok (.astore 4, 2) := by decide +kernel
theorem d6_85 : decode prog_23_method_1_code 85 = .ok (.iconst 0, 1) := by decide +kernel
theorem d6_86 : decode prog_23_method_1_code 86 = .ok (.istore 5, 2) := by decide +kernel
theorem d6_88 : decode prog_23_method_1_code 88 = .ok (.iload 5, 2) := by decide +kernel
theorem d6_90 : decode prog_23_method_1_code 90 = .ok (.aload_n 2, 1) := by decide +kernel
theorem d6_91 : decode prog_23_method_1_code 91 = .ok (.arraylength, 1) := by decide +kernel
theorem d6_92 : decode prog_23_method_1_code 92 = .ok (.if_icmp .ge 47, 3) := by decide +kernel
theorem d6_95 : decode prog_23_method_1_code 95 = .ok (.aload 4, 2) := by decide +kernel
theorem d6_97 : decode prog_23_method_1_code 97 = .ok (.aload_n 2, 1) := by decide +kernel
theorem d6_98 : decode prog_23_method_1_code 98 = .ok (.iload 5, 2) := by decide +kernel
theorem d6_100 : decode prog_23_method_1_code 100 = .ok (.iaload, 1) := by decide +kernel
theorem d6_101 : decode prog_23_method_1_code 101 = .ok (.dup2, 1) := by decide +kernel
theorem d6_102 : decode prog_23_method_1_code 102 = .ok (.iaload, 1) := by decide +kernel
theorem d6_103 : decode prog_23_method_1_code 103 = .ok (.dup_x2, 1) := by decide +kernel
theorem d6_104 : decode prog_23_method_1_code 104 = .ok (.iconst 1, 1) := by decide +kernel
theorem d6_105 : decode prog_23_method_1_code 105 = .ok (.iadd, 1) := by decide +kernel
theorem d6_106 : decode prog_23_method_1_code 106 = .ok (.iastore, 1) := by decide +kernel
theorem d6_107 : decode prog_23_method_1_code 107 = .ok (.istore 6, 2) := by decide +kernel
theorem d6_109 : decode prog_23_method_1_code 109 = .ok (.aload_n 0, 1) := by decide +kernel
theorem d6_110 : decode prog_23_method_1_code 110 = .ok (.getfield 20, 3) := by decide +kernel
theorem d6_113 : decode prog_23_method_1_code 113 = .ok (.iload 6, 2) := by decide +kernel
theorem d6_115 : decode prog_23_method_1_code 115 = .ok (.aload_n 2, 1) := by decide +kernel
theorem d6_116 : decode prog_23_method_1_code 116 = .ok (.iload 5, 2) := by decide +kernel
theorem d6_118 : decode prog_23_method_1_code 118 = .ok (.iconst 1, 1) := by decide +kernel
theorem d6_119 : decode prog_23_method_1_code 119 = .ok (.ixor, 1) := by decide +kernel
theorem d6_120 : decode prog_23_method_1_code 120 = .ok (.iaload, 1) := by decide +kernel
theorem d6_121 : decode prog_23_method_1_code 121 = .ok (.iastore, 1) := by decide +kernel
theorem d6_122 : decode prog_23_method_1_code 122 = .ok (.aload_n 0, 1) := by decide +kernel
theorem d6_123 : decode prog_23_method_1_code 123 = .ok (.getfield 23, 3) := by decide +kernel
theorem d6_126 : decode prog_23_method_1_code 126 = .ok (.iload 6, 2) := by decide +kernel
theorem d6_128 : decode prog_23_method_1_code 128 = .ok (.iload 5, 2) := by decide +kernel
theorem d6_130 : decode prog_23_method_1_code 130 = .ok (.iconst 2, 1) := by decide +kernel
theorem d6_131 : decode prog_23_method_1_code 131 = .ok (.idiv, 1) := by decide +kernel
theorem d6_132 : decode prog_23_method_1_code 132 = .ok (.iastore, 1) := by decide +kernel
theorem d6_133 : decode prog_23_method_1_code 133 = .ok (.iinc 5 1, 3) := by decide +kernel
theorem d6_136 : decode prog_23_method_1_code 136 = .ok (.goto (-48), 3) := by decide +kernel
theorem d6_139 : decode prog_23_method_1_code 139 = .ok (.return_, 1) := by decide +kernel
set_option maxRecDepth 65536 in
set_option maxHeartbeats 40000000 in
theorem rm6 (l : Launch) (Z : State) (a0 : Array Value) (hw : ∀ d ∈ tables_1, d.before a0 Z = true) (ws : List Jvm.Cond) (a : Addr) (p1 : Int32) (r_e : Addr) (r_d : Addr) (es : List Int32) (ds : List Int32) (h0 : Heap) (n0 : Nat) (Z0 : n0 ≤ h0.size) (E_a : Exa Z h0 a "com/example/cyclecut/cyclecut/graph/Graph") (F_a_vertexCount : Fld Z h0 a "com/example/cyclecut/cyclecut/graph/Graph" "vertexCount" "I" (.int (0 : Int32))) (F_a_ends : Fld Z h0 a "com/example/cyclecut/cyclecut/graph/Graph" "ends" "[I" .null) (F_a_firstSlot : Fld Z h0 a "com/example/cyclecut/cyclecut/graph/Graph" "firstSlot" "[I" .null) (F_a_slotNeighbor : Fld Z h0 a "com/example/cyclecut/cyclecut/graph/Graph" "slotNeighbor" "[I" .null) (F_a_slotEdge : Fld Z h0 a "com/example/cyclecut/cyclecut/graph/Graph" "slotEdge" "[I" .null) (g_a : n0 ≤ a) (A_r_e : own_IA Z h0 r_e es) (A_r_d : own_IA Z h0 r_d ds) (hn : ¬ p1 < 0) (h8 : p1.toNatClampNeg ≤ 8) (h32 : es.length ≤ 32) (hds : ds.length = p1.toNatClampNeg) (hGB : own_GB es (own_cof_l p1 (own_fsL ds p1.toNatClampNeg (List.replicate (p1.toNatClampNeg + 1) 0)))) :
    MetFree l (⟨"com/example/cyclecut/cyclecut/graph/Graph", "<init>", "(I[I[I)V"⟩ : MethodName) (head1 (Jvm.Cond.code (⟨"com/example/cyclecut/cyclecut/graph/Graph", "<init>", "(I[I[I)V"⟩ : MethodName) prog_23_method_1_code 7 none :: ws) ({ frames := 2, cells := 4, slots := 105, locals := 32 } : Room)) (fun aa U => aa = #[(.ref a), (.int p1), (.ref r_e), (.ref r_d)] ∧ Z.Warmed39 U.vm ∧ U.heap = h0) (fun _ _ _ _ _ => True) (fun _ U o U' => ∃ v L, o = .returned v ∧ Q_rm6 Z a p1 r_e r_d es ds h0 n0 v U'.heap L ∧ FrameEnd U o U' L ({ frames := 2, cells := 4, slots := 105, locals := 32 } : Room).cells ({ frames := 2, cells := 4, slots := 105, locals := 32 } : Room).slots) := by
  refine MetFree.of_bodySF (plainFor_of_name own_pn4) hisR ?_
  intro p e s m args below meth c s₁ Bd hml0 hP hK
  obtain ⟨rfl, hZ, hh⟩ := hP
  have hx := Bd.exec
  have hby := Bd.bytes
  have hml : c.maxLocals = 7 := hml0
  have hlk : meth.locks = false := BodyLoose.notSynchronized Bd
  have hown : s.vm.findClass "com/example/cyclecut/cyclecut/graph/Graph" = some m.cls := findClass_of_methodNamed Bd.named
  have hnm := (name_of_methodNamed Bd.named Bd.method).1
  have X0 : Stand p l e ({ frames := 2, cells := 4, slots := 105, locals := 32 } : Room) s m #[(.ref a), (.int p1), (.ref r_e), (.ref r_d)] below meth c s₁ [] 0 0 := Stand.of_body Bd
  have e0 : s₁.heap = h0 := by rw [← hh, Bd.state]; rfl
  have N0 := Fr.nil n0
  show own_Go p e below s (Q_rm6 Z a p1 r_e r_d es ds h0 n0) 4 105 (s₁.setTop (entryFrame m #[(.ref a), (.int p1), (.ref r_e), (.ref r_d)] 7))
  refine own_go (B := s₁.setTop (mkF m 0 #[.val (.ref a), .val (.int p1), .val (.ref r_e), .val (.ref r_d), .unset, .unset, .unset] [])) (fun tgt cont => (XT.entry rfl).trans cont) ?_
  have ne_a_r_e := own_neA E_a (hw _ (List.mem_of_getElem? (i := 22) rfl)) A_r_e.arr
  have ne_a_r_d := own_neA E_a (hw _ (List.mem_of_getElem? (i := 22) rfl)) A_r_d.arr
  refine own_go (B := s₁.setTop (mkF m 1 #[.val (.ref a), .val (.int p1), .val (.ref r_e), .val (.ref r_d), .unset, .unset, .unset] [(.ref a)])) (fun tgt cont => ?_) ?_
  · refine XS.aloadN X0.here hx rfl (hb hby d6_0) rfl rfl ?_
    exact cont
  obtain ⟨T1, X1, e1, st1⟩ := initO X0 hx hZ hown (hw _ (List.mem_of_getElem? (i := 50) rfl)) (hw _ (List.mem_of_getElem? (i := 7) rfl)) (hw _ (List.mem_of_getElem? (i := 8) rfl)) e0 (g := (mkF m 1 #[.val (.ref a), .val (.int p1), .val (.ref r_e), .val (.ref r_d), .unset, .unset, .unset] [(.ref a)])) rfl (by rw [hml]; rfl) rfl (hb hby d6_1) (by decide) (W := 0) (by show 2 * 0 + _ ≤ _; exact Nat.le_of_eq rfl) (by decide)
  refine own_go (fun tgt cont => st1 tgt cont) ?_
  show own_Go p e below s (Q_rm6 Z a p1 r_e r_d es ds h0 n0) 4 105 (T1.setTop (mkF m 4 #[.val (.ref a), .val (.int p1), .val (.ref r_e), .val (.ref r_d), .unset, .unset, .unset] []))
  refine own_go (B := T1.setTop (mkF m 6 #[.val (.ref a), .val (.int p1), .val (.ref r_e), .val (.ref r_d), .unset, .unset, .unset] [(.int p1), (.ref a)])) (fun tgt cont => ?_) ?_
  · refine XS.aloadN X1.here hx rfl (hb hby d6_4) rfl rfl ?_
    refine XS.iloadN X1.here hx rfl (hb hby d6_5) rfl ?_
    exact cont
  obtain ⟨T2, h2, X2, e2, W2, st2⟩ := putF X1 hx hZ hown (host := "") (Or.inl (hw _ (List.mem_of_getElem? (i := 51) rfl))) Via.refl e1 F_a_vertexCount E_a (Or.inr ⟨(hw _ (List.mem_of_getElem? (i := 52) rfl)), rfl, hnm⟩) (hw _ (List.mem_of_getElem? (i := 22) rfl)) (ty := .int) (by decide) rfl rfl (g := (mkF m 6 #[.val (.ref a), .val (.int p1), .val (.ref r_e), .val (.ref r_d), .unset, .unset, .unset] [(.int p1), (.ref a)])) rfl rfl (hb hby d6_6)
  have fw2 := F_a_vertexCount.same W2
  have N2 := Fr.snoc X2 N0 g_a
  have kk2 : Keep h0 h2 [a] := (Keep.refl h0 [a]).wr W2 (Or.inl (List.mem_of_getElem? (i := 0) rfl))
  have zp2 : n0 ≤ h2.size := Nat.le_trans Z0 kk2.1
  refine own_go (fun tgt cont => st2 tgt cont) ?_
  show own_Go p e below s (Q_rm6 Z a p1 r_e r_d es ds h0 n0) 4 105 (T2.setTop (mkF m 9 #[.val (.ref a), .val (.int p1), .val (.ref r_e), .val (.ref r_d), .unset, .unset, .unset] []))
  refine own_go (B := T2.setTop (mkF m 11 #[.val (.ref a), .val (.int p1), .val (.ref r_e), .val (.ref r_d), .unset, .unset, .unset] [(.ref r_e), (.ref a)])) (fun tgt cont => ?_) ?_
  · refine XS.aloadN X2.here hx rfl (hb hby d6_9) rfl rfl ?_
    refine XS.aloadN X2.here hx rfl (hb hby d6_10) rfl rfl ?_
    exact cont
  have f4 := (F_a_ends.other W2 (Or.inr (slot_ne (t := (.array .int)) (t' := .int) (Or.inr (hw _ (List.mem_of_getElem? (i := 54) rfl))) (Or.inr (hw _ (List.mem_of_getElem? (i := 52) rfl))) (by decide) (by decide) (by decide))))
  have f5 := (E_a.wr W2)
  obtain ⟨T3, h3, X3, e3, W3, st3⟩ := putF X2 hx hZ hown (host := "") (Or.inl (hw _ (List.mem_of_getElem? (i := 53) rfl))) Via.refl e2 f4 f5 (Or.inr ⟨(hw _ (List.mem_of_getElem? (i := 54) rfl)), rfl, hnm⟩) (hw _ (List.mem_of_getElem? (i := 22) rfl)) (ty := (.array .int)) (by decide) rfl rfl (g := (mkF m 11 #[.val (.ref a), .val (.int p1), .val (.ref r_e), .val (.ref r_d), .unset, .unset, .unset] [(.ref r_e), (.ref a)])) rfl rfl (hb hby d6_11)
  have fw3 := f4.same W3
  have N3 := Fr.snoc X3 N2 g_a
  have kk3 : Keep h0 h3 [a] := kk2.wr W3 (Or.inl (List.mem_of_getElem? (i := 0) rfl))
  have zp3 : n0 ≤ h3.size := Nat.le_trans Z0 kk3.1
  refine own_go (fun tgt cont => st3 tgt cont) ?_
  show own_Go p e below s (Q_rm6 Z a p1 r_e r_d es ds h0 n0) 4 105 (T3.setTop (mkF m 14 #[.val (.ref a), .val (.int p1), .val (.ref r_e), .val (.ref r_d), .unset, .unset, .unset] []))
  refine own_go (B := T3.setTop (mkF m 18 #[.val (.ref a), .val (.int p1), .val (.ref r_e), .val (.ref r_d), .unset, .unset, .unset] [(.int (p1 + (1 : Int32))), (.ref a)])) (fun tgt cont => ?_) ?_
  · refine XS.aloadN X3.here hx rfl (hb hby d6_14) rfl rfl ?_
    refine XS.iloadN X3.here hx rfl (hb hby d6_15) rfl ?_
    refine XT.iconstV X3.here hx rfl (1 : Int32) (hb hby d6_16) rfl ?_
    refine XS.iadd X3.here hx rfl (hb hby d6_17) rfl ?_
    exact cont
  have f7 := (f5.wr W3)
  have f8 := ((A_r_e.other W2 (Ne.symm ne_a_r_e)).other W3 (Ne.symm ne_a_r_e))
  have f9 := ((A_r_d.other W2 (Ne.symm ne_a_r_d)).other W3 (Ne.symm ne_a_r_d))
  obtain ⟨T6, h6, X6, e6, E6, A6, AE6, st6⟩ := own_newIA X3 hx hZ (hw _ (List.mem_of_getElem? (i := 9) rfl)) e3 (g := (mkF m 18 #[.val (.ref a), .val (.int p1), .val (.ref r_e), .val (.ref r_d), .unset, .unset, .unset] [(.int (p1 + (1 : Int32))), (.ref a)])) rfl (hb hby d6_18) rfl (own_p1n hn h8) (cap := 9) (own_p1c hn h8) (by decide) (by decide) (by decide)
  obtain ⟨b6, g6⟩ : ∃ z, z = h3.size := ⟨_, rfl⟩
  rw [← g6] at A6 AE6 st6
  have g_b6 : n0 ≤ b6 := Nat.le_trans zp3 (Nat.le_of_eq g6.symm)
  have sz_b6 : h0.size ≤ b6 := Nat.le_trans kk3.1 (Nat.le_of_eq g6.symm)
  have ne_a_b6 : a ≠ b6 := Nat.ne_of_lt (by rw [g6]; exact f7.lt)
  have ne_r_e_b6 : r_e ≠ b6 := Nat.ne_of_lt (by rw [g6]; exact f8.lt)
  have ne_r_d_b6 : r_d ≠ b6 := Nat.ne_of_lt (by rw [g6]; exact f9.lt)
  have kk6 : Keep h0 h6 [a] := kk3.ext E6
  have zp6 : n0 ≤ h6.size := Nat.le_trans Z0 kk6.1
  have A6v : own_IA Z h6 b6 (List.replicate (p1.toNatClampNeg + 1) 0) := A6.cong (own_p1l hn h8)
  refine own_go (fun tgt cont => st6 tgt cont) ?_
  show own_Go p e below s (Q_rm6 Z a p1 r_e r_d es ds h0 n0) 4 105 (T6.setTop (mkF m 20 #[.val (.ref a), .val (.int p1), .val (.ref r_e), .val (.ref r_d), .unset, .unset, .unset] [(.ref b6), (.ref a)]))
  have f11 := (((F_a_firstSlot.other W2 (Or.inr (slot_ne (t := (.array .int)) (t' := .int) (Or.inr (hw _ (List.mem_of_getElem? (i := 56) rfl))) (Or.inr (hw _ (List.mem_of_getElem? (i := 52) rfl))) (by decide) (by decide) (by decide)))).other W3 (Or.inr (slot_ne (t := (.array .int)) (t' := (.array .int)) (Or.inr (hw _ (List.mem_of_getElem? (i := 56) rfl))) (Or.inr (hw _ (List.mem_of_getElem? (i := 54) rfl))) (by decide) (by decide) (by decide)))).ext E6)
  have f12 := (f7.ext E6)
  obtain ⟨T10, h10, X10, e10, W10, st10⟩ := putF X6 hx hZ hown (host := "") (Or.inl (hw _ (List.mem_of_getElem? (i := 55) rfl))) Via.refl e6 f11 f12 (Or.inr ⟨(hw _ (List.mem_of_getElem? (i := 56) rfl)), rfl, hnm⟩) (hw _ (List.mem_of_getElem? (i := 22) rfl)) (ty := (.array .int)) (by decide) rfl rfl (g := (mkF m 20 #[.val (.ref a), .val (.int p1), .val (.ref r_e), .val (.ref r_d), .unset, .unset, .unset] [(.ref b6), (.ref a)])) rfl rfl (hb hby d6_20)
  have fw10 := f11.same W10
  have N10 := Fr.snoc X10 N3 g_a
  have kk10 : Keep h0 h10 [a] := kk6.wr W10 (Or.inl (List.mem_of_getElem? (i := 0) rfl))
  have zp10 : n0 ≤ h10.size := Nat.le_trans Z0 kk10.1
  refine own_go (fun tgt cont => st10 tgt cont) ?_
  show own_Go p e below s (Q_rm6 Z a p1 r_e r_d es ds h0 n0) 4 105 (T10.setTop (mkF m 23 #[.val (.ref a), .val (.int p1), .val (.ref r_e), .val (.ref r_d), .unset, .unset, .unset] []))
  refine own_go (B := T10.setTop (mkF m 26 #[.val (.ref a), .val (.int p1), .val (.ref r_e), .val (.ref r_d), .val (.int (0 : Int32)), .unset, .unset] [])) (fun tgt cont => ?_) ?_
  · refine XT.iconstV X10.here hx rfl (0 : Int32) (hb hby d6_23) rfl ?_
    refine XS.istore X10.here hx rfl (hb hby d6_24) rfl (l' := #[.val (.ref a), .val (.int p1), .val (.ref r_e), .val (.ref r_d), .val (.int (0 : Int32)), .unset, .unset]) rfl ?_
    exact cont
  have K59 : ∀ (T13 : State) (L13 : List Loc) (h13 : Heap) (o4 : Slot) (X13 : Stand p l e ({ frames := 2, cells := 4, slots := 105, locals := 32 } : Room) s m #[(.ref a), (.int p1), (.ref r_e), (.ref r_d)] below meth c T13 L13 1 9) (e13 : T13.heap = h13) (N13 : Fr n0 L13) (kk13 : Keep h0 h13 [a]) (f13_0 : Exa Z h13 a "com/example/cyclecut/cyclecut/graph/Graph") (f13_1 : Fld Z h13 a "com/example/cyclecut/cyclecut/graph/Graph" "vertexCount" "I" (.int p1)) (f13_2 : Fld Z h13 a "com/example/cyclecut/cyclecut/graph/Graph" "ends" "[I" (.ref r_e)) (f13_3 : Fld Z h13 a "com/example/cyclecut/cyclecut/graph/Graph" "firstSlot" "[I" (.ref b6)) (f13_4 : Fld Z h13 a "com/example/cyclecut/cyclecut/graph/Graph" "slotNeighbor" "[I" .null) (f13_5 : Fld Z h13 a "com/example/cyclecut/cyclecut/graph/Graph" "slotEdge" "[I" .null) (f13_6 : own_IA Z h13 r_e es) (f13_7 : own_IA Z h13 r_d ds) (f13_8 : own_IA Z h13 b6 (own_fsL ds p1.toNatClampNeg (List.replicate (p1.toNatClampNeg + 1) 0))) (f13_9 : Exa Z h13 b6 "[I") (ho4 : o4 = .unset ∨ ∃ w, o4 = .val w ∧ w.category = 1), own_Go p e below s (Q_rm6 Z a p1 r_e r_d es ds h0 n0) 4 105 (T13.setTop (mkF m 59 #[.val (.ref a), .val (.int p1), .val (.ref r_e), .val (.ref r_d), o4, .unset, .unset] [])) := by
    intro T13 L13 h13 o4 X13 e13 N13 kk13 f13_0 f13_1 f13_2 f13_3 f13_4 f13_5 f13_6 f13_7 f13_8 f13_9 ho4
    have zp13 : n0 ≤ h13.size := Nat.le_trans Z0 kk13.1
    refine own_go (B := T13.setTop (mkF m 62 #[.val (.ref a), .val (.int p1), .val (.ref r_e), .val (.ref r_d), o4, .unset, .unset] [(.int (Int32.ofNat es.length)), (.ref a)])) (fun tgt cont => ?_) ?_
    · refine XS.aloadN X13.here hx rfl (hb hby d6_59) rfl rfl ?_
      refine XS.aloadN X13.here hx rfl (hb hby d6_60) rfl rfl ?_
      refine own_lenIA X13 hx hZ e13 f13_6 (g := (mkF m 61 #[.val (.ref a), .val (.int p1), .val (.ref r_e), .val (.ref r_d), o4, .unset, .unset] [(.ref r_e), (.ref a)])) rfl rfl (hb hby d6_61) ?_
      exact cont
    obtain ⟨T14, h14, X14, e14, E14, A14, AE14, st14⟩ := own_newIA X13 hx hZ (hw _ (List.mem_of_getElem? (i := 9) rfl)) e13 (g := (mkF m 62 #[.val (.ref a), .val (.int p1), .val (.ref r_e), .val (.ref r_d), o4, .unset, .unset] [(.int (Int32.ofNat es.length)), (.ref a)])) rfl (hb hby d6_62) rfl (own_nnL A_r_e.small) (cap := 32) (own_capL A_r_e.small h32) (by decide) (by decide) (by decide)
    obtain ⟨b14, g14⟩ : ∃ z, z = h13.size := ⟨_, rfl⟩
    rw [← g14] at A14 AE14 st14
    have g_b14 : n0 ≤ b14 := Nat.le_trans zp13 (Nat.le_of_eq g14.symm)
    have sz_b14 : h0.size ≤ b14 := Nat.le_trans kk13.1 (Nat.le_of_eq g14.symm)
    have ne_a_b14 : a ≠ b14 := Nat.ne_of_lt (by rw [g14]; exact f13_0.lt)
    have ne_r_e_b14 : r_e ≠ b14 := Nat.ne_of_lt (by rw [g14]; exact f13_6.lt)
    have ne_r_d_b14 : r_d ≠ b14 := Nat.ne_of_lt (by rw [g14]; exact f13_7.lt)
    have ne_b6_b14 : b6 ≠ b14 := Nat.ne_of_lt (by rw [g14]; exact f13_8.lt)
    have kk14 : Keep h0 h14 [a] := kk13.ext E14
    have zp14 : n0 ≤ h14.size := Nat.le_trans Z0 kk14.1
    have A14v : own_IA Z h14 b14 (List.replicate es.length 0) := A14.cong (own_repL A_r_e.small)
    refine own_go (fun tgt cont => st14 tgt cont) ?_
    show own_Go p e below s (Q_rm6 Z a p1 r_e r_d es ds h0 n0) 4 105 (T14.setTop (mkF m 64 #[.val (.ref a), .val (.int p1), .val (.ref r_e), .val (.ref r_d), o4, .unset, .unset] [(.ref b14), (.ref a)]))
    have f16 := (f13_4.ext E14)
    have f17 := (f13_0.ext E14)
    obtain ⟨T15, h15, X15, e15, W15, st15⟩ := putF X14 hx hZ hown (host := "") (Or.inl (hw _ (List.mem_of_getElem? (i := 57) rfl))) Via.refl e14 f16 f17 (Or.inr ⟨(hw _ (List.mem_of_getElem? (i := 58) rfl)), rfl, hnm⟩) (hw _ (List.mem_of_getElem? (i := 22) rfl)) (ty := (.array .int)) (by decide) rfl rfl (g := (mkF m 64 #[.val (.ref a), .val (.int p1), .val (.ref r_e), .val (.ref r_d), o4, .unset, .unset] [(.ref b14), (.ref a)])) rfl rfl (hb hby d6_64)
    have fw15 := f16.same W15
    have N15 := Fr.snoc X15 N13 g_a
    have kk15 : Keep h0 h15 [a] := kk14.wr W15 (Or.inl (List.mem_of_getElem? (i := 0) rfl))
    have zp15 : n0 ≤ h15.size := Nat.le_trans Z0 kk15.1
    refine own_go (fun tgt cont => st15 tgt cont) ?_
    show own_Go p e below s (Q_rm6 Z a p1 r_e r_d es ds h0 n0) 4 105 (T15.setTop (mkF m 67 #[.val (.ref a), .val (.int p1), .val (.ref r_e), .val (.ref r_d), o4, .unset, .unset] []))
    have f18 := ((f13_6.ext E14).other W15 (Ne.symm ne_a_r_e))
    refine own_go (B := T15.setTop (mkF m 70 #[.val (.ref a), .val (.int p1), .val (.ref r_e), .val (.ref r_d), o4, .unset, .unset] [(.int (Int32.ofNat es.length)), (.ref a)])) (fun tgt cont => ?_) ?_
    · refine XS.aloadN X15.here hx rfl (hb hby d6_67) rfl rfl ?_
      refine XS.aloadN X15.here hx rfl (hb hby d6_68) rfl rfl ?_
      refine own_lenIA X15 hx hZ e15 f18 (g := (mkF m 69 #[.val (.ref a), .val (.int p1), .val (.ref r_e), .val (.ref r_d), o4, .unset, .unset] [(.ref r_e), (.ref a)])) rfl rfl (hb hby d6_69) ?_
      exact cont
    have f20 := (f17.wr W15)
    have f21 := ((f13_7.ext E14).other W15 (Ne.symm ne_a_r_d))
    have f22 := ((f13_8.ext E14).other W15 (Ne.symm ne_a_b6))
    have f23 := (A14v.other W15 (Ne.symm ne_a_b14))
    obtain ⟨T19, h19, X19, e19, E19, A19, AE19, st19⟩ := own_newIA X15 hx hZ (hw _ (List.mem_of_getElem? (i := 9) rfl)) e15 (g := (mkF m 70 #[.val (.ref a), .val (.int p1), .val (.ref r_e), .val (.ref r_d), o4, .unset, .unset] [(.int (Int32.ofNat es.length)), (.ref a)])) rfl (hb hby d6_70) rfl (own_nnL A_r_e.small) (cap := 32) (own_capL A_r_e.small h32) (by decide) (by decide) (by decide)
    obtain ⟨b19, g19⟩ : ∃ z, z = h15.size := ⟨_, rfl⟩
    rw [← g19] at A19 AE19 st19
    have g_b19 : n0 ≤ b19 := Nat.le_trans zp15 (Nat.le_of_eq g19.symm)
    have sz_b19 : h0.size ≤ b19 := Nat.le_trans kk15.1 (Nat.le_of_eq g19.symm)
    have ne_a_b19 : a ≠ b19 := Nat.ne_of_lt (by rw [g19]; exact f20.lt)
    have ne_r_e_b19 : r_e ≠ b19 := Nat.ne_of_lt (by rw [g19]; exact f18.lt)
    have ne_r_d_b19 : r_d ≠ b19 := Nat.ne_of_lt (by rw [g19]; exact f21.lt)
    have ne_b6_b19 : b6 ≠ b19 := Nat.ne_of_lt (by rw [g19]; exact f22.lt)
    have ne_b14_b19 : b14 ≠ b19 := Nat.ne_of_lt (by rw [g19]; exact f23.lt)
    have kk19 : Keep h0 h19 [a] := kk15.ext E19
    have zp19 : n0 ≤ h19.size := Nat.le_trans Z0 kk19.1
    have A19v : own_IA Z h19 b19 (List.replicate es.length 0) := A19.cong (own_repL A_r_e.small)
    refine own_go (fun tgt cont => st19 tgt cont) ?_
    show own_Go p e below s (Q_rm6 Z a p1 r_e r_d es ds h0 n0) 4 105 (T19.setTop (mkF m 72 #[.val (.ref a), .val (.int p1), .val (.ref r_e), .val (.ref r_d), o4, .unset, .unset] [(.ref b19), (.ref a)]))
    have f25 := (((f13_5.ext E14).other W15 (Or.inr (slot_ne (t := (.array .int)) (t' := (.array .int)) (Or.inr (hw _ (List.mem_of_getElem? (i := 60) rfl))) (Or.inr (hw _ (List.mem_of_getElem? (i := 58) rfl))) (by decide) (by decide) (by decide)))).ext E19)
    have f26 := (f20.ext E19)
    obtain ⟨T24, h24, X24, e24, W24, st24⟩ := putF X19 hx hZ hown (host := "") (Or.inl (hw _ (List.mem_of_getElem? (i := 59) rfl))) Via.refl e19 f25 f26 (Or.inr ⟨(hw _ (List.mem_of_getElem? (i := 60) rfl)), rfl, hnm⟩) (hw _ (List.mem_of_getElem? (i := 22) rfl)) (ty := (.array .int)) (by decide) rfl rfl (g := (mkF m 72 #[.val (.ref a), .val (.int p1), .val (.ref r_e), .val (.ref r_d), o4, .unset, .unset] [(.ref b19), (.ref a)])) rfl rfl (hb hby d6_72)
    have fw24 := f25.same W24
    have N24 := Fr.snoc X24 N15 g_a
    have kk24 : Keep h0 h24 [a] := kk19.wr W24 (Or.inl (List.mem_of_getElem? (i := 0) rfl))
    have zp24 : n0 ≤ h24.size := Nat.le_trans Z0 kk24.1
    refine own_go (fun tgt cont => st24 tgt cont) ?_
    show own_Go p e below s (Q_rm6 Z a p1 r_e r_d es ds h0 n0) 4 105 (T24.setTop (mkF m 75 #[.val (.ref a), .val (.int p1), .val (.ref r_e), .val (.ref r_d), o4, .unset, .unset] []))
    refine own_go (B := T24.setTop (mkF m 76 #[.val (.ref a), .val (.int p1), .val (.ref r_e), .val (.ref r_d), o4, .unset, .unset] [(.ref a)])) (fun tgt cont => ?_) ?_
    · refine XS.aloadN X24.here hx rfl (hb hby d6_75) rfl rfl ?_
      exact cont
    have f28 := ((((f13_3.ext E14).other W15 (Or.inr (slot_ne (t := (.array .int)) (t' := (.array .int)) (Or.inr (hw _ (List.mem_of_getElem? (i := 56) rfl))) (Or.inr (hw _ (List.mem_of_getElem? (i := 58) rfl))) (by decide) (by decide) (by decide)))).ext E19).other W24 (Or.inr (slot_ne (t := (.array .int)) (t' := (.array .int)) (Or.inr (hw _ (List.mem_of_getElem? (i := 56) rfl))) (Or.inr (hw _ (List.mem_of_getElem? (i := 60) rfl))) (by decide) (by decide) (by decide))))
    obtain ⟨T27, X27, e27, st27⟩ := getF X24 hx hZ hown (host := "") (Or.inl (hw _ (List.mem_of_getElem? (i := 55) rfl))) Via.refl e24 f28 (g := (mkF m 76 #[.val (.ref a), .val (.int p1), .val (.ref r_e), .val (.ref r_d), o4, .unset, .unset] [(.ref a)])) rfl rfl (hb hby d6_76)
    refine own_go (fun tgt cont => st27 tgt cont) ?_
    show own_Go p e below s (Q_rm6 Z a p1 r_e r_d es ds h0 n0) 4 105 (T27.setTop (mkF m 79 #[.val (.ref a), .val (.int p1), .val (.ref r_e), .val (.ref r_d), o4, .unset, .unset] [(.ref b6)]))
    refine own_go (B := T27.setTop (mkF m 80 #[.val (.ref a), .val (.int p1), .val (.ref r_e), .val (.ref r_d), o4, .unset, .unset] [(.int p1), (.ref b6)])) (fun tgt cont => ?_) ?_
    · refine XS.iloadN X27.here hx rfl (hb hby d6_79) rfl ?_
      exact cont
    -- pc 80: Arrays.copyOf
    have f30 := ((f22.ext E19).other W24 (Ne.symm ne_a_b6))
    obtain ⟨_, _, ⟨T29, L29, k29, n29⟩, -, X29, ⟨Lc29, hQ29, l29, y29, z29⟩, st29⟩ := Jvm.LawKit.callS X27 hx (y := (⟨"java/util/Arrays", "copyOf", "([II)[I"⟩ : MethodName)) hown (mvT hZ (hw _ (List.mem_of_getElem? (i := 61) rfl))) (mvT hZ (hw _ (List.mem_of_getElem? (i := 27) rfl))) (mvT hZ (hw _ (List.mem_of_getElem? (i := 28) rfl))) (mvT hZ (hw _ (List.mem_of_getElem? (i := 29) rfl))) (by decide) (backOf (W := 0) (rm4 l Z a0 hw [] b6 p1 (own_fsL ds p1.toNatClampNeg (List.replicate (p1.toNatClampNeg + 1) 0)) h24 n0 zp24 f30 (own_cpd hn (own_fsL_len2 ..) h8) hn (Nat.le_trans h8 (by decide))) hZ (hw _ (List.mem_of_getElem? (i := 29) rfl)) (hw _ (List.mem_of_getElem? (i := 28) rfl)) (by decide) (by decide)) (g := (mkF m 80 #[.val (.ref a), .val (.int p1), .val (.ref r_e), .val (.ref r_d), o4, .unset, .unset] [(.int p1), (.ref b6)])) rfl (by rw [hml]; rfl) (argsL := [(.ref b6), (.int p1)]) (rest := []) (lenOf own_pd2 rfl) rfl (by show 2 * 0 + _ ≤ _; exact Nat.le_of_eq rfl) (hb hby d6_80) (fun _ _ => ⟨rfl, e27, (by decide : 1 + 1 + 1 + 1 ≤ _), (by decide : 9 + 32 + 32 + 32 ≤ _)⟩)
    dsimp only [Pt.U, Pt.locs, Pt.cells, Pt.slots] at X29 l29 y29 z29 st29 hQ29
    subst l29 y29 z29
    have f31 := (f26.wr W24)
    have f32 := ((f18.ext E19).other W24 (Ne.symm ne_a_r_e))
    have f33 := ((f21.ext E19).other W24 (Ne.symm ne_a_r_d))
    have f34 := ((f23.ext E19).other W24 (Ne.symm ne_a_b14))
    have f35 := (A19v.other W24 (Ne.symm ne_a_b19))
    obtain ⟨b29, rfl, N29q, K29, gb29, ab29, eb29⟩ := hQ29
    have N29 := Fr.app N24 N29q
    have g_b29 : n0 ≤ b29 := Nat.le_trans zp24 gb29
    have sz_b29 : h0.size ≤ b29 := Nat.le_trans kk24.1 gb29
    have ne_a_b29 : a ≠ b29 := Nat.ne_of_lt (Nat.lt_of_lt_of_le f31.lt gb29)
    have ne_r_e_b29 : r_e ≠ b29 := Nat.ne_of_lt (Nat.lt_of_lt_of_le f32.lt gb29)
    have ne_r_d_b29 : r_d ≠ b29 := Nat.ne_of_lt (Nat.lt_of_lt_of_le f33.lt gb29)
    have ne_b6_b29 : b6 ≠ b29 := Nat.ne_of_lt (Nat.lt_of_lt_of_le f30.lt gb29)
    have ne_b14_b29 : b14 ≠ b29 := Nat.ne_of_lt (Nat.lt_of_lt_of_le f34.lt gb29)
    have ne_b19_b29 : b19 ≠ b29 := Nat.ne_of_lt (Nat.lt_of_lt_of_le f35.lt gb29)
    have kk29 : Keep h0 T29.heap [a] := kk24.trans K29 all0
    have zp29 : n0 ≤ T29.heap.size := Nat.le_trans Z0 kk29.1
    refine own_go (fun tgt cont => st29 tgt cont) ?_
    show own_Go p e below s (Q_rm6 Z a p1 r_e r_d es ds h0 n0) 4 105 (T29.setTop (mkF m 83 #[.val (.ref a), .val (.int p1), .val (.ref r_e), .val (.ref r_d), o4, .unset, .unset] [(.ref b29)]))
    refine own_go (B := T29.setTop (mkF m 88 #[.val (.ref a), .val (.int p1), .val (.ref r_e), .val (.ref r_d), .val (.ref b29), .val (.int (0 : Int32)), .unset] [])) (fun tgt cont => ?_) ?_
    · refine XS.astore X29.here hx rfl (hb hby d6_83) rfl rfl (l' := #[.val (.ref a), .val (.int p1), .val (.ref r_e), .val (.ref r_d), .val (.ref b29), .unset, .unset]) (XS.store1 (o := o4) rfl ho4 rfl) ?_
      refine XT.iconstV X29.here hx rfl (0 : Int32) (hb hby d6_85) rfl ?_
      refine XS.istore X29.here hx rfl (hb hby d6_86) rfl (l' := #[.val (.ref a), .val (.int p1), .val (.ref r_e), .val (.ref r_d), .val (.ref b29), .val (.int (0 : Int32)), .unset]) rfl ?_
      exact cont
    have LP2 : ∀ (f : Nat) (T36 : State) (L36 : List Loc) (h36 : Heap) (i : Nat) (qn q1 q2 : List Int32) (o6 : Slot) (X36 : Stand p l e ({ frames := 2, cells := 4, slots := 105, locals := 32 } : Room) s m #[(.ref a), (.int p1), (.ref r_e), (.ref r_d)] below meth c T36 L36 4 105) (e36 : T36.heap = h36) (N36 : Fr n0 L36) (kk36 : Keep h0 h36 [a]) (f36_0 : Exa Z h36 a "com/example/cyclecut/cyclecut/graph/Graph") (f36_1 : Fld Z h36 a "com/example/cyclecut/cyclecut/graph/Graph" "vertexCount" "I" (.int p1)) (f36_2 : Fld Z h36 a "com/example/cyclecut/cyclecut/graph/Graph" "ends" "[I" (.ref r_e)) (f36_3 : Fld Z h36 a "com/example/cyclecut/cyclecut/graph/Graph" "firstSlot" "[I" (.ref b6)) (f36_4 : Fld Z h36 a "com/example/cyclecut/cyclecut/graph/Graph" "slotNeighbor" "[I" (.ref b14)) (f36_5 : Fld Z h36 a "com/example/cyclecut/cyclecut/graph/Graph" "slotEdge" "[I" (.ref b19)) (f36_6 : own_IA Z h36 r_e es) (f36_7 : own_IA Z h36 r_d ds) (f36_8 : own_IA Z h36 b6 (own_fsL ds p1.toNatClampNeg (List.replicate (p1.toNatClampNeg + 1) 0))) (f36_9 : Exa Z h36 b6 "[I") (f36_10 : own_IA Z h36 b14 q1) (f36_11 : Exa Z h36 b14 "[I") (f36_12 : own_IA Z h36 b19 q2) (f36_13 : Exa Z h36 b19 "[I") (f36_14 : Exa Z h36 b29 "[I") (f36_15 : own_IA Z h36 b29 qn) (ho6 : o6 = .unset ∨ ∃ w, o6 = .val w ∧ w.category = 1) (hm : es.length - i < f) (hi : i ≤ es.length) (hqn : qn = own_ln es (own_cof_l p1 (own_fsL ds p1.toNatClampNeg (List.replicate (p1.toNatClampNeg + 1) 0))) i) (hq1 : q1 = own_l1 es (own_cof_l p1 (own_fsL ds p1.toNatClampNeg (List.replicate (p1.toNatClampNeg + 1) 0))) (List.replicate es.length 0) i) (hq2 : q2 = own_l2 es (own_cof_l p1 (own_fsL ds p1.toNatClampNeg (List.replicate (p1.toNatClampNeg + 1) 0))) (List.replicate es.length 0) i), own_Go p e below s (Q_rm6 Z a p1 r_e r_d es ds h0 n0) 4 105 (T36.setTop (mkF m 88 #[.val (.ref a), .val (.int p1), .val (.ref r_e), .val (.ref r_d), .val (.ref b29), .val (.int (Int32.ofNat i)), o6] [])) := by
      intro f
      induction f with
      | zero =>
        intro T36 L36 h36 i qn q1 q2 o6 X36 e36 N36 kk36 f36_0 f36_1 f36_2 f36_3 f36_4 f36_5 f36_6 f36_7 f36_8 f36_9 f36_10 f36_11 f36_12 f36_13 f36_14 f36_15 ho6 hm hi hqn hq1 hq2
        omega
      | succ f ih =>
        intro T36 L36 h36 i qn q1 q2 o6 X36 e36 N36 kk36 f36_0 f36_1 f36_2 f36_3 f36_4 f36_5 f36_6 f36_7 f36_8 f36_9 f36_10 f36_11 f36_12 f36_13 f36_14 f36_15 ho6 hm hi hqn hq1 hq2
        have zp36 : n0 ≤ h36.size := Nat.le_trans Z0 kk36.1
        have hln : qn.length = (own_cof_l p1 (own_fsL ds p1.toNatClampNeg (List.replicate (p1.toNatClampNeg + 1) 0))).length := by rw [hqn, own_ln_len]
        have hl1 : q1.length = es.length := by rw [hq1, own_l1_len, List.length_replicate]
        have hl2 : q2.length = es.length := by rw [hq2, own_l2_len, List.length_replicate]
        refine own_go (B := T36.setTop (mkF m 92 #[.val (.ref a), .val (.int p1), .val (.ref r_e), .val (.ref r_d), .val (.ref b29), .val (.int (Int32.ofNat i)), o6] [(.int (Int32.ofNat es.length)), (.int (Int32.ofNat i))])) (fun tgt cont => ?_) ?_
        · refine XS.iload X36.here hx rfl (hb hby d6_88) rfl ?_
          refine XS.aloadN X36.here hx rfl (hb hby d6_90) rfl rfl ?_
          refine own_lenIA X36 hx hZ e36 f36_6 (g := (mkF m 91 #[.val (.ref a), .val (.int p1), .val (.ref r_e), .val (.ref r_d), .val (.ref b29), .val (.int (Int32.ofNat i)), o6] [(.ref r_e), (.int (Int32.ofNat i))])) rfl rfl (hb hby d6_91) ?_
          exact cont
        by_cases hc37 : (Int32.ofNat i) < (Int32.ofNat es.length)
        ·
          refine own_go (B := T36.setTop (mkF m 106 #[.val (.ref a), .val (.int p1), .val (.ref r_e), .val (.ref r_d), .val (.ref b29), .val (.int (Int32.ofNat i)), o6] [(.int ((qn.getD (es.getD i 0).toNatClampNeg 0) + (1 : Int32))), (.int (es.getD i 0)), (.ref b29), (.int (qn.getD (es.getD i 0).toNatClampNeg 0))])) (fun tgt cont => ?_) ?_
          · refine XS.icmpNo X36.here hx rfl (hb hby d6_92) rfl (XT.ii_ge_f hc37) ?_
            refine XS.aload X36.here hx rfl (hb hby d6_95) rfl rfl ?_
            refine XS.aloadN X36.here hx rfl (hb hby d6_97) rfl rfl ?_
            refine XS.iload X36.here hx rfl (hb hby d6_98) rfl ?_
            refine own_ldIAn X36 hx hZ e36 f36_6 (i := i) (own_ofNat_lt hc37 A_r_e.small hi) (g := (mkF m 100 #[.val (.ref a), .val (.int p1), .val (.ref r_e), .val (.ref r_d), .val (.ref b29), .val (.int (Int32.ofNat i)), o6] [(.int (Int32.ofNat i)), (.ref r_e), (.ref b29)])) rfl rfl (hb hby d6_100) ?_
            refine XT.dup2 X36.here hx rfl (hb hby d6_101) rfl rfl rfl ?_
            refine own_ldIA X36 hx hZ e36 f36_15 (j := (es.getD i 0)) (by rw [hln]; exact (hGB i (own_ofNat_lt hc37 A_r_e.small hi)).1) (g := (mkF m 102 #[.val (.ref a), .val (.int p1), .val (.ref r_e), .val (.ref r_d), .val (.ref b29), .val (.int (Int32.ofNat i)), o6] [(.int (es.getD i 0)), (.ref b29), (.int (es.getD i 0)), (.ref b29)])) rfl rfl (hb hby d6_102) ?_
            jvm_step X36.here [X36.here.top, hx, (hb hby d6_103), Value.category]
            refine XT.iconstV X36.here hx rfl (1 : Int32) (hb hby d6_104) rfl ?_
            refine XS.iadd X36.here hx rfl (hb hby d6_105) rfl ?_
            exact cont
          obtain ⟨T38, h38, X38, e38, W38, A38, st38⟩ := own_stIA X36 hx hZ e36 f36_15 (j := (es.getD i 0)) (x := ((qn.getD (es.getD i 0).toNatClampNeg 0) + (1 : Int32))) (by rw [hln]; exact (hGB i (own_ofNat_lt hc37 A_r_e.small hi)).1) (g := (mkF m 106 #[.val (.ref a), .val (.int p1), .val (.ref r_e), .val (.ref r_d), .val (.ref b29), .val (.int (Int32.ofNat i)), o6] [(.int ((qn.getD (es.getD i 0).toNatClampNeg 0) + (1 : Int32))), (.int (es.getD i 0)), (.ref b29), (.int (qn.getD (es.getD i 0).toNatClampNeg 0))])) rfl rfl (hb hby d6_106)
          have N38 := Fr.snoc X38 N36 g_b29
          have kk38 : Keep h0 h38 [a] := kk36.wr W38 (Or.inr sz_b29)
          have zp38 : n0 ≤ h38.size := Nat.le_trans Z0 kk38.1
          refine own_go (fun tgt cont => st38 tgt cont) ?_
          show own_Go p e below s (Q_rm6 Z a p1 r_e r_d es ds h0 n0) 4 105 (T38.setTop (mkF m 107 #[.val (.ref a), .val (.int p1), .val (.ref r_e), .val (.ref r_d), .val (.ref b29), .val (.int (Int32.ofNat i)), o6] [(.int (qn.getD (es.getD i 0).toNatClampNeg 0))]))
          refine own_go (B := T38.setTop (mkF m 110 #[.val (.ref a), .val (.int p1), .val (.ref r_e), .val (.ref r_d), .val (.ref b29), .val (.int (Int32.ofNat i)), .val (.int (qn.getD (es.getD i 0).toNatClampNeg 0))] [(.ref a)])) (fun tgt cont => ?_) ?_
          · refine XS.istore X38.here hx rfl (hb hby d6_107) rfl (l' := #[.val (.ref a), .val (.int p1), .val (.ref r_e), .val (.ref r_d), .val (.ref b29), .val (.int (Int32.ofNat i)), .val (.int (qn.getD (es.getD i 0).toNatClampNeg 0))]) (XS.store1 (o := o6) rfl ho6 rfl) ?_
            refine XS.aloadN X38.here hx rfl (hb hby d6_109) rfl rfl ?_
            exact cont
          have f40 := (f36_4.other W38 (Or.inl ne_a_b29))
          obtain ⟨T39, X39, e39, st39⟩ := getF X38 hx hZ hown (host := "") (Or.inl (hw _ (List.mem_of_getElem? (i := 57) rfl))) Via.refl e38 f40 (g := (mkF m 110 #[.val (.ref a), .val (.int p1), .val (.ref r_e), .val (.ref r_d), .val (.ref b29), .val (.int (Int32.ofNat i)), .val (.int (qn.getD (es.getD i 0).toNatClampNeg 0))] [(.ref a)])) rfl rfl (hb hby d6_110)
          refine own_go (fun tgt cont => st39 tgt cont) ?_
          show own_Go p e below s (Q_rm6 Z a p1 r_e r_d es ds h0 n0) 4 105 (T39.setTop (mkF m 113 #[.val (.ref a), .val (.int p1), .val (.ref r_e), .val (.ref r_d), .val (.ref b29), .val (.int (Int32.ofNat i)), .val (.int (qn.getD (es.getD i 0).toNatClampNeg 0))] [(.ref b14)]))
          have f41 := (f36_6.other W38 ne_r_e_b29)
          refine own_go (B := T39.setTop (mkF m 121 #[.val (.ref a), .val (.int p1), .val (.ref r_e), .val (.ref r_d), .val (.ref b29), .val (.int (Int32.ofNat i)), .val (.int (qn.getD (es.getD i 0).toNatClampNeg 0))] [(.int (es.getD ((Int32.ofNat i) ^^^ (1 : Int32)).toNatClampNeg 0)), (.int (qn.getD (es.getD i 0).toNatClampNeg 0)), (.ref b14)])) (fun tgt cont => ?_) ?_
          · refine XS.iload X39.here hx rfl (hb hby d6_113) rfl ?_
            refine XS.aloadN X39.here hx rfl (hb hby d6_115) rfl rfl ?_
            refine XS.iload X39.here hx rfl (hb hby d6_116) rfl ?_
            refine XT.iconstV X39.here hx rfl (1 : Int32) (hb hby d6_118) rfl ?_
            refine XS.ixor X39.here hx rfl (hb hby d6_119) rfl ?_
            refine own_ldIA X39 hx hZ e39 f41 (j := ((Int32.ofNat i) ^^^ (1 : Int32))) (hGB i (own_ofNat_lt hc37 A_r_e.small hi)).2.2 (g := (mkF m 120 #[.val (.ref a), .val (.int p1), .val (.ref r_e), .val (.ref r_d), .val (.ref b29), .val (.int (Int32.ofNat i)), .val (.int (qn.getD (es.getD i 0).toNatClampNeg 0))] [(.int ((Int32.ofNat i) ^^^ (1 : Int32))), (.ref r_e), (.int (qn.getD (es.getD i 0).toNatClampNeg 0)), (.ref b14)])) rfl rfl (hb hby d6_120) ?_
            exact cont
          have f42 := (f36_10.other W38 ne_b14_b29)
          obtain ⟨T43, h43, X43, e43, W43, A43, st43⟩ := own_stIA X39 hx hZ e39 f42 (j := (qn.getD (es.getD i 0).toNatClampNeg 0)) (x := (es.getD ((Int32.ofNat i) ^^^ (1 : Int32)).toNatClampNeg 0)) (by rw [hl1, hqn]; exact (hGB i (own_ofNat_lt hc37 A_r_e.small hi)).2.1) (g := (mkF m 121 #[.val (.ref a), .val (.int p1), .val (.ref r_e), .val (.ref r_d), .val (.ref b29), .val (.int (Int32.ofNat i)), .val (.int (qn.getD (es.getD i 0).toNatClampNeg 0))] [(.int (es.getD ((Int32.ofNat i) ^^^ (1 : Int32)).toNatClampNeg 0)), (.int (qn.getD (es.getD i 0).toNatClampNeg 0)), (.ref b14)])) rfl rfl (hb hby d6_121)
          have N43 := Fr.snoc X43 N38 g_b14
          have kk43 : Keep h0 h43 [a] := kk38.wr W43 (Or.inr sz_b14)
          have zp43 : n0 ≤ h43.size := Nat.le_trans Z0 kk43.1
          refine own_go (fun tgt cont => st43 tgt cont) ?_
          show own_Go p e below s (Q_rm6 Z a p1 r_e r_d es ds h0 n0) 4 105 (T43.setTop (mkF m 122 #[.val (.ref a), .val (.int p1), .val (.ref r_e), .val (.ref r_d), .val (.ref b29), .val (.int (Int32.ofNat i)), .val (.int (qn.getD (es.getD i 0).toNatClampNeg 0))] []))
          refine own_go (B := T43.setTop (mkF m 123 #[.val (.ref a), .val (.int p1), .val (.ref r_e), .val (.ref r_d), .val (.ref b29), .val (.int (Int32.ofNat i)), .val (.int (qn.getD (es.getD i 0).toNatClampNeg 0))] [(.ref a)])) (fun tgt cont => ?_) ?_
          · refine XS.aloadN X43.here hx rfl (hb hby d6_122) rfl rfl ?_
            exact cont
          have f45 := ((f36_5.other W38 (Or.inl ne_a_b29)).other W43 (Or.inl ne_a_b14))
          obtain ⟨T44, X44, e44, st44⟩ := getF X43 hx hZ hown (host := "") (Or.inl (hw _ (List.mem_of_getElem? (i := 59) rfl))) Via.refl e43 f45 (g := (mkF m 123 #[.val (.ref a), .val (.int p1), .val (.ref r_e), .val (.ref r_d), .val (.ref b29), .val (.int (Int32.ofNat i)), .val (.int (qn.getD (es.getD i 0).toNatClampNeg 0))] [(.ref a)])) rfl rfl (hb hby d6_123)
          refine own_go (fun tgt cont => st44 tgt cont) ?_
          show own_Go p e below s (Q_rm6 Z a p1 r_e r_d es ds h0 n0) 4 105 (T44.setTop (mkF m 126 #[.val (.ref a), .val (.int p1), .val (.ref r_e), .val (.ref r_d), .val (.ref b29), .val (.int (Int32.ofNat i)), .val (.int (qn.getD (es.getD i 0).toNatClampNeg 0))] [(.ref b19)]))
          refine own_go (B := T44.setTop (mkF m 132 #[.val (.ref a), .val (.int p1), .val (.ref r_e), .val (.ref r_d), .val (.ref b29), .val (.int (Int32.ofNat i)), .val (.int (qn.getD (es.getD i 0).toNatClampNeg 0))] [(.int ((Int32.ofNat i) / (2 : Int32))), (.int (qn.getD (es.getD i 0).toNatClampNeg 0)), (.ref b19)])) (fun tgt cont => ?_) ?_
          · refine XS.iload X44.here hx rfl (hb hby d6_126) rfl ?_
            refine XS.iload X44.here hx rfl (hb hby d6_128) rfl ?_
            refine XT.iconstV X44.here hx rfl (2 : Int32) (hb hby d6_130) rfl ?_
            refine XS.idiv X44.here hx rfl (hb hby d6_131) rfl (by decide) ?_
            exact cont
          have f46 := ((f36_12.other W38 ne_b19_b29).other W43 (Ne.symm ne_b14_b19))
          obtain ⟨T47, h47, X47, e47, W47, A47, st47⟩ := own_stIA X44 hx hZ e44 f46 (j := (qn.getD (es.getD i 0).toNatClampNeg 0)) (x := ((Int32.ofNat i) / (2 : Int32))) (by rw [hl2, hqn]; exact (hGB i (own_ofNat_lt hc37 A_r_e.small hi)).2.1) (g := (mkF m 132 #[.val (.ref a), .val (.int p1), .val (.ref r_e), .val (.ref r_d), .val (.ref b29), .val (.int (Int32.ofNat i)), .val (.int (qn.getD (es.getD i 0).toNatClampNeg 0))] [(.int ((Int32.ofNat i) / (2 : Int32))), (.int (qn.getD (es.getD i 0).toNatClampNeg 0)), (.ref b19)])) rfl rfl (hb hby d6_132)
          have N47 := Fr.snoc X47 N43 g_b19
          have kk47 : Keep h0 h47 [a] := kk43.wr W47 (Or.inr sz_b19)
          have zp47 : n0 ≤ h47.size := Nat.le_trans Z0 kk47.1
          refine own_go (fun tgt cont => st47 tgt cont) ?_
          show own_Go p e below s (Q_rm6 Z a p1 r_e r_d es ds h0 n0) 4 105 (T47.setTop (mkF m 133 #[.val (.ref a), .val (.int p1), .val (.ref r_e), .val (.ref r_d), .val (.ref b29), .val (.int (Int32.ofNat i)), .val (.int (qn.getD (es.getD i 0).toNatClampNeg 0))] []))
          refine own_go (B := T47.setTop (mkF m 88 #[.val (.ref a), .val (.int p1), .val (.ref r_e), .val (.ref r_d), .val (.ref b29), .val (.int ((Int32.ofNat i) + (1 : Int32))), .val (.int (qn.getD (es.getD i 0).toNatClampNeg 0))] [])) (fun tgt cont => ?_) ?_
          · refine XT.iincV X47.here hx rfl (1 : Int32) (hb hby d6_133) rfl rfl (l' := #[.val (.ref a), .val (.int p1), .val (.ref r_e), .val (.ref r_d), .val (.ref b29), .val (.int ((Int32.ofNat i) + (1 : Int32))), .val (.int (qn.getD (es.getD i 0).toNatClampNeg 0))]) rfl ?_
            refine XS.goto X47.here hx rfl (pc0 := 136) (pc' := 88) rfl (hb hby d6_136) (by decide) (by decide) ?_
            exact cont
          rw [own_one]
          have q := own_ofNat_lt hc37 A_r_e.small hi
          have f48 := (((f36_0.wr W38).wr W43).wr W47)
          have f49 := (((f36_1.other W38 (Or.inl ne_a_b29)).other W43 (Or.inl ne_a_b14)).other W47 (Or.inl ne_a_b19))
          have f50 := (((f36_2.other W38 (Or.inl ne_a_b29)).other W43 (Or.inl ne_a_b14)).other W47 (Or.inl ne_a_b19))
          have f51 := (((f36_3.other W38 (Or.inl ne_a_b29)).other W43 (Or.inl ne_a_b14)).other W47 (Or.inl ne_a_b19))
          have f52 := ((f40.other W43 (Or.inl ne_a_b14)).other W47 (Or.inl ne_a_b19))
          have f53 := (f45.other W47 (Or.inl ne_a_b19))
          have f54 := ((f41.other W43 ne_r_e_b14).other W47 ne_r_e_b19)
          have f55 := (((f36_7.other W38 ne_r_d_b29).other W43 ne_r_d_b14).other W47 ne_r_d_b19)
          have f56 := (((f36_8.other W38 ne_b6_b29).other W43 ne_b6_b14).other W47 ne_b6_b19)
          have f57 := (((f36_9.wr W38).wr W43).wr W47)
          have f58 := (A43.other W47 ne_b14_b19)
          have f59 := (((f36_11.wr W38).wr W43).wr W47)
          have f60 := (((f36_13.wr W38).wr W43).wr W47)
          have f61 := (((f36_14.wr W38).wr W43).wr W47)
          have f62 := ((A38.other W43 (Ne.symm ne_b14_b29)).other W47 (Ne.symm ne_b19_b29))
          exact ih _ _ _ (i + 1) _ _ _ _ (own_wide X47 (by decide) (by decide)) e47 N47 kk47 f48 f49 f50 f51 f52 f53 f54 f55 f56 f57 f58 f59 A47 f60 f61 f62 (Or.inr ⟨_, rfl, rfl⟩) (by omega) (by omega) (by rw [hqn]; rfl) (by rw [hq1, hqn]; rfl) (by rw [hq2, hqn]; rfl)
        ·
          refine own_go (B := T36.setTop (mkF m 139 #[.val (.ref a), .val (.int p1), .val (.ref r_e), .val (.ref r_d), .val (.ref b29), .val (.int (Int32.ofNat i)), o6] [])) (fun tgt cont => ?_) ?_
          · refine XS.icmpYes X36.here hx rfl (pc0 := 92) (pc' := 139) rfl (hb hby d6_92) rfl (XT.ii_ge_t hc37) (by decide) (by decide) ?_
            exact cont
          refine own_end X36 (v := none) (fun _ => rfl) hlk ?_ (by decide) (by decide) (fun fs hl => X36.returnOut hx Bd.returns (hb hby d6_139) hl)
          rw [e36]
          exact ⟨_, _, _, rfl, N36, kk36, f36_0, f36_1, f36_2, f36_3, f36_4, f36_5, sz_b6, f36_8, f36_9, sz_b14, (f36_10.cong (by have q := own_geL hc37 A_r_e.small hi; subst q; exact hq1)), f36_11, sz_b19, (f36_12.cong (by have q := own_geL hc37 A_r_e.small hi; subst q; exact hq2)), f36_13, ne_b6_b14, ne_b6_b19, ne_b14_b19⟩
    have f63 := (f31.keep K29)
    have f64 := (((((f13_1.ext E14).other W15 (Or.inr (slot_ne (t := .int) (t' := (.array .int)) (Or.inr (hw _ (List.mem_of_getElem? (i := 52) rfl))) (Or.inr (hw _ (List.mem_of_getElem? (i := 58) rfl))) (by decide) (by decide) (by decide)))).ext E19).other W24 (Or.inr (slot_ne (t := .int) (t' := (.array .int)) (Or.inr (hw _ (List.mem_of_getElem? (i := 52) rfl))) (Or.inr (hw _ (List.mem_of_getElem? (i := 60) rfl))) (by decide) (by decide) (by decide)))).keep K29 nin0)
    have f65 := (((((f13_2.ext E14).other W15 (Or.inr (slot_ne (t := (.array .int)) (t' := (.array .int)) (Or.inr (hw _ (List.mem_of_getElem? (i := 54) rfl))) (Or.inr (hw _ (List.mem_of_getElem? (i := 58) rfl))) (by decide) (by decide) (by decide)))).ext E19).other W24 (Or.inr (slot_ne (t := (.array .int)) (t' := (.array .int)) (Or.inr (hw _ (List.mem_of_getElem? (i := 54) rfl))) (Or.inr (hw _ (List.mem_of_getElem? (i := 60) rfl))) (by decide) (by decide) (by decide)))).keep K29 nin0)
    have f66 := (f28.keep K29 nin0)
    have f67 := (((fw15.ext E19).other W24 (Or.inr (slot_ne (t := (.array .int)) (t' := (.array .int)) (Or.inr (hw _ (List.mem_of_getElem? (i := 58) rfl))) (Or.inr (hw _ (List.mem_of_getElem? (i := 60) rfl))) (by decide) (by decide) (by decide)))).keep K29 nin0)
    have f68 := (fw24.keep K29 nin0)
    have f69 := (f32.keep K29 nin0)
    have f70 := (f33.keep K29 nin0)
    have f71 := (f30.keep K29 nin0)
    have f72 := (((((f13_9.ext E14).wr W15).ext E19).wr W24).keep K29)
    have f73 := (f34.keep K29 nin0)
    have f74 := ((((AE14.wr W15).ext E19).wr W24).keep K29)
    have f75 := (f35.keep K29 nin0)
    have f76 := ((AE19.wr W24).keep K29)
    exact LP2 _ _ _ _ 0 _ _ _ _ (own_wide X29 (by decide) (by decide)) rfl N29 kk29 f63 f64 f65 f66 f67 f68 f69 f70 f71 f72 f73 f74 f75 f76 eb29 ab29 (Or.inl rfl) (Nat.lt_succ_self _) (Nat.zero_le _) rfl rfl rfl
  have LP1 : ∀ (f : Nat) (T77 : State) (L77 : List Loc) (h77 : Heap) (i : Nat) (qs : List Int32) (X77 : Stand p l e ({ frames := 2, cells := 4, slots := 105, locals := 32 } : Room) s m #[(.ref a), (.int p1), (.ref r_e), (.ref r_d)] below meth c T77 L77 1 9) (e77 : T77.heap = h77) (N77 : Fr n0 L77) (kk77 : Keep h0 h77 [a]) (f77_0 : Exa Z h77 a "com/example/cyclecut/cyclecut/graph/Graph") (f77_1 : Fld Z h77 a "com/example/cyclecut/cyclecut/graph/Graph" "vertexCount" "I" (.int p1)) (f77_2 : Fld Z h77 a "com/example/cyclecut/cyclecut/graph/Graph" "ends" "[I" (.ref r_e)) (f77_3 : Fld Z h77 a "com/example/cyclecut/cyclecut/graph/Graph" "firstSlot" "[I" (.ref b6)) (f77_4 : Fld Z h77 a "com/example/cyclecut/cyclecut/graph/Graph" "slotNeighbor" "[I" .null) (f77_5 : Fld Z h77 a "com/example/cyclecut/cyclecut/graph/Graph" "slotEdge" "[I" .null) (f77_6 : own_IA Z h77 r_e es) (f77_7 : own_IA Z h77 r_d ds) (f77_8 : own_IA Z h77 b6 qs) (f77_9 : Exa Z h77 b6 "[I") (hm : p1.toNatClampNeg - i < f) (hi : i ≤ p1.toNatClampNeg) (hq : qs = own_fsL ds i (List.replicate (p1.toNatClampNeg + 1) 0)), own_Go p e below s (Q_rm6 Z a p1 r_e r_d es ds h0 n0) 4 105 (T77.setTop (mkF m 26 #[.val (.ref a), .val (.int p1), .val (.ref r_e), .val (.ref r_d), .val (.int (Int32.ofNat i)), .unset, .unset] [])) := by
    intro f
    induction f with
    | zero =>
      intro T77 L77 h77 i qs X77 e77 N77 kk77 f77_0 f77_1 f77_2 f77_3 f77_4 f77_5 f77_6 f77_7 f77_8 f77_9 hm hi hq
      omega
    | succ f ih =>
      intro T77 L77 h77 i qs X77 e77 N77 kk77 f77_0 f77_1 f77_2 f77_3 f77_4 f77_5 f77_6 f77_7 f77_8 f77_9 hm hi hq
      have zp77 : n0 ≤ h77.size := Nat.le_trans Z0 kk77.1
      have hl : qs.length = p1.toNatClampNeg + 1 := by rw [hq, own_fsL_len, List.length_replicate]
      refine own_go (B := T77.setTop (mkF m 29 #[.val (.ref a), .val (.int p1), .val (.ref r_e), .val (.ref r_d), .val (.int (Int32.ofNat i)), .unset, .unset] [(.int p1), (.int (Int32.ofNat i))])) (fun tgt cont => ?_) ?_
      · refine XS.iload X77.here hx rfl (hb hby d6_26) rfl ?_
        refine XS.iloadN X77.here hx rfl (hb hby d6_28) rfl ?_
        exact cont
      by_cases hc78 : (Int32.ofNat i) < p1
      ·
        refine own_go (B := T77.setTop (mkF m 33 #[.val (.ref a), .val (.int p1), .val (.ref r_e), .val (.ref r_d), .val (.int (Int32.ofNat i)), .unset, .unset] [(.ref a)])) (fun tgt cont => ?_) ?_
        · refine XS.icmpNo X77.here hx rfl (hb hby d6_29) rfl (XT.ii_ge_f hc78) ?_
          refine XS.aloadN X77.here hx rfl (hb hby d6_32) rfl rfl ?_
          exact cont
        obtain ⟨T79, X79, e79, st79⟩ := getF X77 hx hZ hown (host := "") (Or.inl (hw _ (List.mem_of_getElem? (i := 55) rfl))) Via.refl e77 f77_3 (g := (mkF m 33 #[.val (.ref a), .val (.int p1), .val (.ref r_e), .val (.ref r_d), .val (.int (Int32.ofNat i)), .unset, .unset] [(.ref a)])) rfl rfl (hb hby d6_33)
        refine own_go (fun tgt cont => st79 tgt cont) ?_
        show own_Go p e below s (Q_rm6 Z a p1 r_e r_d es ds h0 n0) 4 105 (T79.setTop (mkF m 36 #[.val (.ref a), .val (.int p1), .val (.ref r_e), .val (.ref r_d), .val (.int (Int32.ofNat i)), .unset, .unset] [(.ref b6)]))
        refine own_go (B := T79.setTop (mkF m 40 #[.val (.ref a), .val (.int p1), .val (.ref r_e), .val (.ref r_d), .val (.int (Int32.ofNat i)), .unset, .unset] [(.int ((Int32.ofNat i) + (1 : Int32))), (.ref b6)])) (fun tgt cont => ?_) ?_
        · refine XS.iload X79.here hx rfl (hb hby d6_36) rfl ?_
          refine XT.iconstV X79.here hx rfl (1 : Int32) (hb hby d6_38) rfl ?_
          refine XS.iadd X79.here hx rfl (hb hby d6_39) rfl ?_
          exact cont
        rw [own_one]
        refine own_go (B := T79.setTop (mkF m 41 #[.val (.ref a), .val (.int p1), .val (.ref r_e), .val (.ref r_d), .val (.int (Int32.ofNat i)), .unset, .unset] [(.ref a), (.int (Int32.ofNat (i + 1))), (.ref b6)])) (fun tgt cont => ?_) ?_
        · refine XS.aloadN X79.here hx rfl (hb hby d6_40) rfl rfl ?_
          exact cont
        obtain ⟨T80, X80, e80, st80⟩ := getF X79 hx hZ hown (host := "") (Or.inl (hw _ (List.mem_of_getElem? (i := 55) rfl))) Via.refl e79 f77_3 (g := (mkF m 41 #[.val (.ref a), .val (.int p1), .val (.ref r_e), .val (.ref r_d), .val (.int (Int32.ofNat i)), .unset, .unset] [(.ref a), (.int (Int32.ofNat (i + 1))), (.ref b6)])) rfl rfl (hb hby d6_41)
        refine own_go (fun tgt cont => st80 tgt cont) ?_
        show own_Go p e below s (Q_rm6 Z a p1 r_e r_d es ds h0 n0) 4 105 (T80.setTop (mkF m 44 #[.val (.ref a), .val (.int p1), .val (.ref r_e), .val (.ref r_d), .val (.int (Int32.ofNat i)), .unset, .unset] [(.ref b6), (.int (Int32.ofNat (i + 1))), (.ref b6)]))
        refine own_go (B := T80.setTop (mkF m 52 #[.val (.ref a), .val (.int p1), .val (.ref r_e), .val (.ref r_d), .val (.int (Int32.ofNat i)), .unset, .unset] [(.int ((qs.getD i 0) + (ds.getD i 0))), (.int (Int32.ofNat (i + 1))), (.ref b6)])) (fun tgt cont => ?_) ?_
        · refine XS.iload X80.here hx rfl (hb hby d6_44) rfl ?_
          refine own_ldIAn X80 hx hZ e80 f77_8 (i := i) (by have := own_ltP hc78 hn hi; omega) (g := (mkF m 46 #[.val (.ref a), .val (.int p1), .val (.ref r_e), .val (.ref r_d), .val (.int (Int32.ofNat i)), .unset, .unset] [(.int (Int32.ofNat i)), (.ref b6), (.int (Int32.ofNat (i + 1))), (.ref b6)])) rfl rfl (hb hby d6_46) ?_
          refine XS.aloadN X80.here hx rfl (hb hby d6_47) rfl rfl ?_
          refine XS.iload X80.here hx rfl (hb hby d6_48) rfl ?_
          refine own_ldIAn X80 hx hZ e80 f77_7 (i := i) (by rw [hds]; exact own_ltP hc78 hn hi) (g := (mkF m 50 #[.val (.ref a), .val (.int p1), .val (.ref r_e), .val (.ref r_d), .val (.int (Int32.ofNat i)), .unset, .unset] [(.int (Int32.ofNat i)), (.ref r_d), (.int (qs.getD i 0)), (.int (Int32.ofNat (i + 1))), (.ref b6)])) rfl rfl (hb hby d6_50) ?_
          refine XS.iadd X80.here hx rfl (hb hby d6_51) rfl ?_
          exact cont
        obtain ⟨T81, h81, X81, e81, W81, A81, st81⟩ := own_stIAn X80 hx hZ e80 f77_8 (i := (i + 1)) (x := ((qs.getD i 0) + (ds.getD i 0))) (by have := own_ltP hc78 hn hi; omega) (g := (mkF m 52 #[.val (.ref a), .val (.int p1), .val (.ref r_e), .val (.ref r_d), .val (.int (Int32.ofNat i)), .unset, .unset] [(.int ((qs.getD i 0) + (ds.getD i 0))), (.int (Int32.ofNat (i + 1))), (.ref b6)])) rfl rfl (hb hby d6_52)
        have N81 := Fr.snoc X81 N77 g_b6
        have kk81 : Keep h0 h81 [a] := kk77.wr W81 (Or.inr sz_b6)
        have zp81 : n0 ≤ h81.size := Nat.le_trans Z0 kk81.1
        refine own_go (fun tgt cont => st81 tgt cont) ?_
        show own_Go p e below s (Q_rm6 Z a p1 r_e r_d es ds h0 n0) 4 105 (T81.setTop (mkF m 53 #[.val (.ref a), .val (.int p1), .val (.ref r_e), .val (.ref r_d), .val (.int (Int32.ofNat i)), .unset, .unset] []))
        refine own_go (B := T81.setTop (mkF m 26 #[.val (.ref a), .val (.int p1), .val (.ref r_e), .val (.ref r_d), .val (.int ((Int32.ofNat i) + (1 : Int32))), .unset, .unset] [])) (fun tgt cont => ?_) ?_
        · refine XT.iincV X81.here hx rfl (1 : Int32) (hb hby d6_53) rfl rfl (l' := #[.val (.ref a), .val (.int p1), .val (.ref r_e), .val (.ref r_d), .val (.int ((Int32.ofNat i) + (1 : Int32))), .unset, .unset]) rfl ?_
          refine XS.goto X81.here hx rfl (pc0 := 56) (pc' := 26) rfl (hb hby d6_56) (by decide) (by decide) ?_
          exact cont
        rw [own_one]
        have q := own_ltP hc78 hn hi
        have f82 := (f77_0.wr W81)
        have f83 := (f77_1.other W81 (Or.inl ne_a_b6))
        have f84 := (f77_2.other W81 (Or.inl ne_a_b6))
        have f85 := (f77_3.other W81 (Or.inl ne_a_b6))
        have f86 := (f77_4.other W81 (Or.inl ne_a_b6))
        have f87 := (f77_5.other W81 (Or.inl ne_a_b6))
        have f88 := (f77_6.other W81 ne_r_e_b6)
        have f89 := (f77_7.other W81 ne_r_d_b6)
        have f90 := (f77_9.wr W81)
        exact ih _ _ _ (i + 1) _ (own_wide X81 (by decide) (by decide)) e81 N81 kk81 f82 f83 f84 f85 f86 f87 f88 f89 A81 f90 (by omega) (by omega) (by rw [hq]; rfl)
      ·
        refine own_go (B := T77.setTop (mkF m 59 #[.val (.ref a), .val (.int p1), .val (.ref r_e), .val (.ref r_d), .val (.int (Int32.ofNat i)), .unset, .unset] [])) (fun tgt cont => ?_) ?_
        · refine XS.icmpYes X77.here hx rfl (pc0 := 29) (pc' := 59) rfl (hb hby d6_29) rfl (XT.ii_ge_t hc78) (by decide) (by decide) ?_
          exact cont
        have q := own_geP hc78 hn hi
        subst q
        subst hq
        exact K59 _ _ _ _ (own_wide X77 (by decide) (by decide)) e77 N77 kk77 f77_0 f77_1 f77_2 f77_3 f77_4 f77_5 f77_6 f77_7 f77_8 f77_9 (Or.inr ⟨_, rfl, rfl⟩)
  have f91 := (f12.wr W10)
  have f92 := (((fw2.other W3 (Or.inr (slot_ne (t := .int) (t' := (.array .int)) (Or.inr (hw _ (List.mem_of_getElem? (i := 52) rfl))) (Or.inr (hw _ (List.mem_of_getElem? (i := 54) rfl))) (by decide) (by decide) (by decide)))).ext E6).other W10 (Or.inr (slot_ne (t := .int) (t' := (.array .int)) (Or.inr (hw _ (List.mem_of_getElem? (i := 52) rfl))) (Or.inr (hw _ (List.mem_of_getElem? (i := 56) rfl))) (by decide) (by decide) (by decide))))
  have f93 := ((fw3.ext E6).other W10 (Or.inr (slot_ne (t := (.array .int)) (t' := (.array .int)) (Or.inr (hw _ (List.mem_of_getElem? (i := 54) rfl))) (Or.inr (hw _ (List.mem_of_getElem? (i := 56) rfl))) (by decide) (by decide) (by decide))))
  have f94 := ((((F_a_slotNeighbor.other W2 (Or.inr (slot_ne (t := (.array .int)) (t' := .int) (Or.inr (hw _ (List.mem_of_getElem? (i := 58) rfl))) (Or.inr (hw _ (List.mem_of_getElem? (i := 52) rfl))) (by decide) (by decide) (by decide)))).other W3 (Or.inr (slot_ne (t := (.array .int)) (t' := (.array .int)) (Or.inr (hw _ (List.mem_of_getElem? (i := 58) rfl))) (Or.inr (hw _ (List.mem_of_getElem? (i := 54) rfl))) (by decide) (by decide) (by decide)))).ext E6).other W10 (Or.inr (slot_ne (t := (.array .int)) (t' := (.array .int)) (Or.inr (hw _ (List.mem_of_getElem? (i := 58) rfl))) (Or.inr (hw _ (List.mem_of_getElem? (i := 56) rfl))) (by decide) (by decide) (by decide))))
  have f95 := ((((F_a_slotEdge.other W2 (Or.inr (slot_ne (t := (.array .int)) (t' := .int) (Or.inr (hw _ (List.mem_of_getElem? (i := 60) rfl))) (Or.inr (hw _ (List.mem_of_getElem? (i := 52) rfl))) (by decide) (by decide) (by decide)))).other W3 (Or.inr (slot_ne (t := (.array .int)) (t' := (.array .int)) (Or.inr (hw _ (List.mem_of_getElem? (i := 60) rfl))) (Or.inr (hw _ (List.mem_of_getElem? (i := 54) rfl))) (by decide) (by decide) (by decide)))).ext E6).other W10 (Or.inr (slot_ne (t := (.array .int)) (t' := (.array .int)) (Or.inr (hw _ (List.mem_of_getElem? (i := 60) rfl))) (Or.inr (hw _ (List.mem_of_getElem? (i := 56) rfl))) (by decide) (by decide) (by decide))))
  have f96 := ((f8.ext E6).other W10 (Ne.symm ne_a_r_e))
  have f97 := ((f9.ext E6).other W10 (Ne.symm ne_a_r_d))
  have f98 := (A6v.other W10 (Ne.symm ne_a_b6))
  have f99 := (AE6.wr W10)
  exact LP1 _ _ _ _ 0 _ (own_wide X10 (by decide) (by decide)) e10 N10 kk10 f91 f92 f93 fw10 f94 f95 f96 f97 f98 f99 (Nat.lt_succ_self _) (Nat.zero_le _) rfl
def Q_rm3 (Z : State) (a : Addr) (u_v : Int32) (u_d : Addr) (u_e : Addr) (u_c : Int32) (ds : List Int32) (es : List Int32) (h0 : Heap) (n0 : Nat) (v : Option Value) (h : Heap) (L : List Loc) : Prop := ∃ xg xe xf xn xs : Addr, v = some (.ref xg) ∧ Fr n0 L ∧ Keep h0 h [] ∧ h0.size ≤ xg ∧ Exa Z h xg "com/example/cyclecut/cyclecut/graph/Graph" ∧ Fld Z h xg "com/example/cyclecut/cyclecut/graph/Graph" "vertexCount" "I" (.int u_v) ∧ Fld Z h xg "com/example/cyclecut/cyclecut/graph/Graph" "ends" "[I" (.ref xe) ∧ Fld Z h xg "com/example/cyclecut/cyclecut/graph/Graph" "firstSlot" "[I" (.ref xf) ∧ Fld Z h xg "com/example/cyclecut/cyclecut/graph/Graph" "slotNeighbor" "[I" (.ref xn) ∧ Fld Z h xg "com/example/cyclecut/cyclecut/graph/Graph" "slotEdge" "[I" (.ref xs) ∧ own_IA Z h xe (own_cof_l ((2 : Int32) * u_c) es) ∧ own_IA Z h xf (own_fsL ds u_v.toNatClampNeg (List.replicate (u_v.toNatClampNeg + 1) 0)) ∧ own_IA Z h xn (own_l1 (own_cof_l ((2 : Int32) * u_c) es) (own_cof_l u_v (own_fsL ds u_v.toNatClampNeg (List.replicate (u_v.toNatClampNeg + 1) 0))) (List.replicate (own_cof_l ((2 : Int32) * u_c) es).length 0) (own_cof_l ((2 : Int32) * u_c) es).length) ∧ own_IA Z h xs (own_l2 (own_cof_l ((2 : Int32) * u_c) es) (own_cof_l u_v (own_fsL ds u_v.toNatClampNeg (List.replicate (u_v.toNatClampNeg + 1) 0))) (List.replicate (own_cof_l ((2 : Int32) * u_c) es).length 0) (own_cof_l ((2 : Int32) * u_c) es).length)
theorem own_pd3 : parseMethodDescriptor "(I[I[I)V" = some ⟨[.int, (.array .int), (.array .int)], none⟩ := by decide +kernel
theorem d3_0 : decode prog_24_method_4_code 0 = .ok (.new 62, 3) := by decide +kernel
theorem d3_3 : decode prog_24_method_4_code 3 = .ok (.dup, 1) := by decide +kernel
theorem d3_4 : decode prog_24_method_4_code 4 = .ok (.aload_n 0, 1) := by decide +kernel
theorem d3_5 : decode prog_24_method_4_code 5 = .ok (.getfield 24, 3) := by decide +kernel
theorem d3_8 : decode prog_24_method_4_code 8 = .ok (.aload_n 0, 1) := by decide +kernel
theorem d3_9 : decode prog_24_method_4_code 9 = .ok (.getfield 9, 3) := by decide +kernel
theorem d3_12 : decode prog_24_method_4_code 12 = .ok (.iconst 2, 1) := by decide +kernel
theorem d3_13 : decode prog_24_method_4_code 13 = .ok (.aload_n 0, 1) := by decide +kernel
theorem d3_14 : decode prog_24_method_4_code 14 = .ok (.getfield 37, 3) := by decide +kernel
theorem d3_17 : decode prog_24_method_4_code 17 = .ok (.imul, 1) := by decide +kernel
theorem d3_18 : decode prog_24_method_4_code 18 = .ok (.invokestatic 56, 3) := by decide +kernel
theorem d3_21 : decode prog_24_method_4_code 21 = .ok (.aload_n 0, 1) := by decide +kernel
theorem d3_22 : decode prog_24_method_4_code 22 = .ok (.getfield 28, 3) := by decide +kernel
theorem d3_25 : decode prog_24_method_4_code 25 = .ok (.invokevirtual 64, 3) := by decide +kernel
theorem d3_28 : decode prog_24_method_4_code 28 = .ok (.checkcast 65, 3) := by decide +kernel
theorem d3_31 : decode prog_24_method_4_code 31 = .ok (.invokespecial 69, 3) := by decide +kernel
theorem d3_34 : decode prog_24_method_4_code 34 = .ok (.areturn, 1) := by decide +kernel
set_option maxRecDepth 65536 in
set_option maxHeartbeats 40000000 in
theorem rm3 (l : Launch) (Z : State) (a0 : Array Value) (hw : ∀ d ∈ tables_1, d.before a0 Z = true) (ws : List Jvm.Cond) (a : Addr) (u_v : Int32) (u_d : Addr) (u_e : Addr) (u_c : Int32) (ds : List Int32) (es : List Int32) (h0 : Heap) (n0 : Nat) (Z0 : n0 ≤ h0.size) (E_a : Exa Z h0 a "com/example/cyclecut/cyclecut/graph/Graph$Builder") (F_a_vertexCount : Fld Z h0 a "com/example/cyclecut/cyclecut/graph/Graph$Builder" "vertexCount" "I" (.int u_v)) (F_a_degree : Fld Z h0 a "com/example/cyclecut/cyclecut/graph/Graph$Builder" "degree" "[I" (.ref u_d)) (F_a_ends : Fld Z h0 a "com/example/cyclecut/cyclecut/graph/Graph$Builder" "ends" "[I" (.ref u_e)) (F_a_edgeCount : Fld Z h0 a "com/example/cyclecut/cyclecut/graph/Graph$Builder" "edgeCount" "I" (.int u_c)) (A_u_d : own_IA Z h0 u_d ds) (EX_d : Exa Z h0 u_d "[I") (A_u_e : own_IA Z h0 u_e es) (hd : ¬ ((2 : Int32) * u_c) = (Int32.ofNat es.length)) (hn2 : ¬ ((2 : Int32) * u_c) < 0) (h32 : ((2 : Int32) * u_c).toNatClampNeg ≤ 32) (hn : ¬ u_v < 0) (h8 : u_v.toNatClampNeg ≤ 8) (hle : (own_cof_l ((2 : Int32) * u_c) es).length ≤ 32) (hds : ds.length = u_v.toNatClampNeg) (hGB : own_GB (own_cof_l ((2 : Int32) * u_c) es) (own_cof_l u_v (own_fsL ds u_v.toNatClampNeg (List.replicate (u_v.toNatClampNeg + 1) 0)))) :
    MetFree l (⟨"com/example/cyclecut/cyclecut/graph/Graph$Builder", "build", "()Lcom/example/cyclecut/cyclecut/graph/Graph;"⟩ : MethodName) (head1 (Jvm.Cond.code (⟨"com/example/cyclecut/cyclecut/graph/Graph$Builder", "build", "()Lcom/example/cyclecut/cyclecut/graph/Graph;"⟩ : MethodName) prog_24_method_4_code 1 (some (.object "com/example/cyclecut/cyclecut/graph/Graph")) :: ws) ({ frames := 3, cells := 7, slots := 150, locals := 51 } : Room)) (fun aa U => aa = #[(.ref a)] ∧ Z.Warmed39 U.vm ∧ U.heap = h0) (fun _ _ _ _ _ => True) (fun _ U o U' => ∃ v L, o = .returned v ∧ Q_rm3 Z a u_v u_d u_e u_c ds es h0 n0 v U'.heap L ∧ FrameEnd U o U' L ({ frames := 3, cells := 7, slots := 150, locals := 51 } : Room).cells ({ frames := 3, cells := 7, slots := 150, locals := 51 } : Room).slots) := by
  refine MetFree.of_bodySF (plainFor_of_name own_pn2) hisR ?_
  intro p e s m args below meth c s₁ Bd hml0 hP hK
  obtain ⟨rfl, hZ, hh⟩ := hP
  have hx := Bd.exec
  have hby := Bd.bytes
  have hml : c.maxLocals = 1 := hml0
  have hlk : meth.locks = false := BodyLoose.notSynchronized Bd
  have hown : s.vm.findClass "com/example/cyclecut/cyclecut/graph/Graph$Builder" = some m.cls := findClass_of_methodNamed Bd.named
  have hnm := (name_of_methodNamed Bd.named Bd.method).1
  have X0 : Stand p l e ({ frames := 3, cells := 7, slots := 150, locals := 51 } : Room) s m #[(.ref a)] below meth c s₁ [] 0 0 := Stand.of_body Bd
  have e0 : s₁.heap = h0 := by rw [← hh, Bd.state]; rfl
  have N0 := Fr.nil n0
  show own_Go p e below s (Q_rm3 Z a u_v u_d u_e u_c ds es h0 n0) 7 150 (s₁.setTop (entryFrame m #[(.ref a)] 1))
  refine own_go (B := s₁.setTop (mkF m 0 #[.val (.ref a)] [])) (fun tgt cont => (XT.entry rfl).trans cont) ?_
  obtain ⟨T1, h1, X1, e1, E1, A1, D1, -, st1⟩ := newO X0 hx hZ hown (hw _ (List.mem_of_getElem? (i := 21) rfl)) (hw _ (List.mem_of_getElem? (i := 22) rfl)) (hw _ (List.mem_of_getElem? (i := 23) rfl)) e0 (g := (mkF m 0 #[.val (.ref a)] [])) rfl (hb hby d3_0) (by decide) (by decide)
  obtain ⟨b1, g1⟩ : ∃ z, z = h0.size := ⟨_, rfl⟩
  rw [← g1] at A1 D1 st1
  have g_b1 : n0 ≤ b1 := Nat.le_trans Z0 (Nat.le_of_eq g1.symm)
  have sz_b1 : h0.size ≤ b1 := Nat.le_trans (Keep.refl h0 []).1 (Nat.le_of_eq g1.symm)
  have ne_a_b1 : a ≠ b1 := Nat.ne_of_lt (by rw [g1]; exact E_a.lt)
  have ne_u_d_b1 : u_d ≠ b1 := Nat.ne_of_lt (by rw [g1]; exact A_u_d.lt)
  have ne_u_e_b1 : u_e ≠ b1 := Nat.ne_of_lt (by rw [g1]; exact A_u_e.lt)
  have kk1 : Keep h0 h1 [] := (Keep.refl h0 []).ext E1
  have zp1 : n0 ≤ h1.size := Nat.le_trans Z0 kk1.1
  have F_vertexCount_b1 : Fld Z h1 b1 "com/example/cyclecut/cyclecut/graph/Graph" "vertexCount" "I" (.int (0 : Int32)) := D1 (Or.inr (hw _ (List.mem_of_getElem? (i := 52) rfl))) (ty := .int) (by decide)
  have F_ends_b1 : Fld Z h1 b1 "com/example/cyclecut/cyclecut/graph/Graph" "ends" "[I" .null := D1 (Or.inr (hw _ (List.mem_of_getElem? (i := 54) rfl))) (ty := (.array .int)) (by decide)
  have F_firstSlot_b1 : Fld Z h1 b1 "com/example/cyclecut/cyclecut/graph/Graph" "firstSlot" "[I" .null := D1 (Or.inr (hw _ (List.mem_of_getElem? (i := 56) rfl))) (ty := (.array .int)) (by decide)
  have F_slotNeighbor_b1 : Fld Z h1 b1 "com/example/cyclecut/cyclecut/graph/Graph" "slotNeighbor" "[I" .null := D1 (Or.inr (hw _ (List.mem_of_getElem? (i := 58) rfl))) (ty := (.array .int)) (by decide)
  have F_slotEdge_b1 : Fld Z h1 b1 "com/example/cyclecut/cyclecut/graph/Graph" "slotEdge" "[I" .null := D1 (Or.inr (hw _ (List.mem_of_getElem? (i := 60) rfl))) (ty := (.array .int)) (by decide)
  refine own_go (fun tgt cont => st1 tgt cont) ?_
  show own_Go p e below s (Q_rm3 Z a u_v u_d u_e u_c ds es h0 n0) 7 150 (T1.setTop (mkF m 3 #[.val (.ref a)] [(.ref b1)]))
  refine own_go (B := T1.setTop (mkF m 5 #[.val (.ref a)] [(.ref a), (.ref b1), (.ref b1)])) (fun tgt cont => ?_) ?_
  · refine XS.dup X1.here hx rfl (hb hby d3_3) rfl rfl ?_
    refine XS.aloadN X1.here hx rfl (hb hby d3_4) rfl rfl ?_
    exact cont
  have f3 := (F_a_vertexCount.ext E1)
  obtain ⟨T2, X2, e2, st2⟩ := getF X1 hx hZ hown (host := "") (Or.inl (hw _ (List.mem_of_getElem? (i := 12) rfl))) Via.refl e1 f3 (g := (mkF m 5 #[.val (.ref a)] [(.ref a), (.ref b1), (.ref b1)])) rfl rfl (hb hby d3_5)
  refine own_go (fun tgt cont => st2 tgt cont) ?_
  show own_Go p e below s (Q_rm3 Z a u_v u_d u_e u_c ds es h0 n0) 7 150 (T2.setTop (mkF m 8 #[.val (.ref a)] [(.int u_v), (.ref b1), (.ref b1)]))
  refine own_go (B := T2.setTop (mkF m 9 #[.val (.ref a)] [(.ref a), (.int u_v), (.ref b1), (.ref b1)])) (fun tgt cont => ?_) ?_
  · refine XS.aloadN X2.here hx rfl (hb hby d3_8) rfl rfl ?_
    exact cont
  have f5 := (F_a_ends.ext E1)
  obtain ⟨T4, X4, e4, st4⟩ := getF X2 hx hZ hown (host := "") (Or.inl (hw _ (List.mem_of_getElem? (i := 10) rfl))) Via.refl e2 f5 (g := (mkF m 9 #[.val (.ref a)] [(.ref a), (.int u_v), (.ref b1), (.ref b1)])) rfl rfl (hb hby d3_9)
  refine own_go (fun tgt cont => st4 tgt cont) ?_
  show own_Go p e below s (Q_rm3 Z a u_v u_d u_e u_c ds es h0 n0) 7 150 (T4.setTop (mkF m 12 #[.val (.ref a)] [(.ref u_e), (.int u_v), (.ref b1), (.ref b1)]))
  refine own_go (B := T4.setTop (mkF m 14 #[.val (.ref a)] [(.ref a), (.int (2 : Int32)), (.ref u_e), (.int u_v), (.ref b1), (.ref b1)])) (fun tgt cont => ?_) ?_
  · refine XT.iconstV X4.here hx rfl (2 : Int32) (hb hby d3_12) rfl ?_
    refine XS.aloadN X4.here hx rfl (hb hby d3_13) rfl rfl ?_
    exact cont
  have f7 := (F_a_edgeCount.ext E1)
  obtain ⟨T6, X6, e6, st6⟩ := getF X4 hx hZ hown (host := "") (Or.inl (hw _ (List.mem_of_getElem? (i := 24) rfl))) Via.refl e4 f7 (g := (mkF m 14 #[.val (.ref a)] [(.ref a), (.int (2 : Int32)), (.ref u_e), (.int u_v), (.ref b1), (.ref b1)])) rfl rfl (hb hby d3_14)
  refine own_go (fun tgt cont => st6 tgt cont) ?_
  show own_Go p e below s (Q_rm3 Z a u_v u_d u_e u_c ds es h0 n0) 7 150 (T6.setTop (mkF m 17 #[.val (.ref a)] [(.int u_c), (.int (2 : Int32)), (.ref u_e), (.int u_v), (.ref b1), (.ref b1)]))
  refine own_go (B := T6.setTop (mkF m 18 #[.val (.ref a)] [(.int ((2 : Int32) * u_c)), (.ref u_e), (.int u_v), (.ref b1), (.ref b1)])) (fun tgt cont => ?_) ?_
  · refine XS.imul X6.here hx rfl (hb hby d3_17) rfl ?_
    exact cont
  -- pc 18: Arrays.copyOf
  have f9 := (A_u_e.ext E1)
  obtain ⟨_, _, ⟨T8, L8, k8, n8⟩, -, X8, ⟨Lc8, hQ8, l8, y8, z8⟩, st8⟩ := Jvm.LawKit.callS X6 hx (y := (⟨"java/util/Arrays", "copyOf", "([II)[I"⟩ : MethodName)) hown (mvT hZ (hw _ (List.mem_of_getElem? (i := 26) rfl))) (mvT hZ (hw _ (List.mem_of_getElem? (i := 27) rfl))) (mvT hZ (hw _ (List.mem_of_getElem? (i := 28) rfl))) (mvT hZ (hw _ (List.mem_of_getElem? (i := 29) rfl))) (by decide) (backOf (W := 3) (rm4 l Z a0 hw [] u_e ((2 : Int32) * u_c) es h1 n0 zp1 f9 hd hn2 h32) hZ (hw _ (List.mem_of_getElem? (i := 29) rfl)) (hw _ (List.mem_of_getElem? (i := 28) rfl)) (by decide) (by decide)) (g := (mkF m 18 #[.val (.ref a)] [(.int ((2 : Int32) * u_c)), (.ref u_e), (.int u_v), (.ref b1), (.ref b1)])) rfl (by rw [hml]; rfl) (argsL := [(.ref u_e), (.int ((2 : Int32) * u_c))]) (rest := [(.int u_v), (.ref b1), (.ref b1)]) (lenOf own_pd2 rfl) rfl (by show 2 * 0 + _ ≤ _; exact Nat.le_of_eq rfl) (hb hby d3_18) (fun _ _ => ⟨rfl, e6, (by decide : 0 + 1 + 1 ≤ _), (by decide : 0 + 5 + 32 ≤ _)⟩)
  dsimp only [Pt.U, Pt.locs, Pt.cells, Pt.slots] at X8 l8 y8 z8 st8 hQ8
  subst l8 y8 z8
  have f10 := (E_a.ext E1)
  have f11 := (A_u_d.ext E1)
  obtain ⟨b8, rfl, N8q, K8, gb8, ab8, eb8⟩ := hQ8
  have N8 := Fr.app N0 N8q
  have g_b8 : n0 ≤ b8 := Nat.le_trans zp1 gb8
  have sz_b8 : h0.size ≤ b8 := Nat.le_trans kk1.1 gb8
  have ne_a_b8 : a ≠ b8 := Nat.ne_of_lt (Nat.lt_of_lt_of_le f10.lt gb8)
  have ne_u_d_b8 : u_d ≠ b8 := Nat.ne_of_lt (Nat.lt_of_lt_of_le f11.lt gb8)
  have ne_u_e_b8 : u_e ≠ b8 := Nat.ne_of_lt (Nat.lt_of_lt_of_le f9.lt gb8)
  have ne_b1_b8 : b1 ≠ b8 := Nat.ne_of_lt (Nat.lt_of_lt_of_le A1.lt gb8)
  have kk8 : Keep h0 T8.heap [] := kk1.trans K8 all0
  have zp8 : n0 ≤ T8.heap.size := Nat.le_trans Z0 kk8.1
  refine own_go (fun tgt cont => st8 tgt cont) ?_
  show own_Go p e below s (Q_rm3 Z a u_v u_d u_e u_c ds es h0 n0) 7 150 (T8.setTop (mkF m 21 #[.val (.ref a)] [(.ref b8), (.int u_v), (.ref b1), (.ref b1)]))
  refine own_go (B := T8.setTop (mkF m 22 #[.val (.ref a)] [(.ref a), (.ref b8), (.int u_v), (.ref b1), (.ref b1)])) (fun tgt cont => ?_) ?_
  · refine XS.aloadN X8.here hx rfl (hb hby d3_21) rfl rfl ?_
    exact cont
  have f13 := ((F_a_degree.ext E1).keep K8 nin0)
  obtain ⟨T12, X12, e12, st12⟩ := getF X8 hx hZ hown (host := "") (Or.inl (hw _ (List.mem_of_getElem? (i := 14) rfl))) Via.refl rfl f13 (g := (mkF m 22 #[.val (.ref a)] [(.ref a), (.ref b8), (.int u_v), (.ref b1), (.ref b1)])) rfl rfl (hb hby d3_22)
  refine own_go (fun tgt cont => st12 tgt cont) ?_
  show own_Go p e below s (Q_rm3 Z a u_v u_d u_e u_c ds es h0 n0) 7 150 (T12.setTop (mkF m 25 #[.val (.ref a)] [(.ref u_d), (.ref b8), (.int u_v), (.ref b1), (.ref b1)]))
  have f15 := (f11.keep K8 nin0)
  have f16 := ((EX_d.ext E1).keep K8)
  have f17 := (f10.keep K8)
  have f18 := (f9.keep K8 nin0)
  have f19 := (A1.keep K8)
  obtain ⟨T14, h14, X14, e14, E14, A14, AE14, st14⟩ := own_cloneIA X12 hx hZ hown (hw _ (List.mem_of_getElem? (i := 38) rfl)) (hw _ (List.mem_of_getElem? (i := 39) rfl)) (hw _ (List.mem_of_getElem? (i := 43) rfl)) (hw _ (List.mem_of_getElem? (i := 41) rfl)) (hw _ (List.mem_of_getElem? (i := 42) rfl)) (hw _ (List.mem_of_getElem? (i := 44) rfl)) e12 f15 f16 (g := (mkF m 25 #[.val (.ref a)] [(.ref u_d), (.ref b8), (.int u_v), (.ref b1), (.ref b1)])) rfl (by rw [hml]; rfl) rfl (hb hby d3_25) (by decide) (W := 4) (cap := 8) (by show 2 * 0 + _ ≤ _; exact Nat.le_of_eq rfl) (by decide) (by rw [hds]; exact h8) (by decide) (by decide)
  obtain ⟨b14, g14⟩ : ∃ z, z = T8.heap.size := ⟨_, rfl⟩
  rw [← g14] at A14 AE14 st14
  have g_b14 : n0 ≤ b14 := Nat.le_trans zp8 (Nat.le_of_eq g14.symm)
  have sz_b14 : h0.size ≤ b14 := Nat.le_trans kk8.1 (Nat.le_of_eq g14.symm)
  have ne_a_b14 : a ≠ b14 := Nat.ne_of_lt (by rw [g14]; exact f17.lt)
  have ne_u_d_b14 : u_d ≠ b14 := Nat.ne_of_lt (by rw [g14]; exact f15.lt)
  have ne_u_e_b14 : u_e ≠ b14 := Nat.ne_of_lt (by rw [g14]; exact f18.lt)
  have ne_b1_b14 : b1 ≠ b14 := Nat.ne_of_lt (by rw [g14]; exact f19.lt)
  have ne_b8_b14 : b8 ≠ b14 := Nat.ne_of_lt (by rw [g14]; exact eb8.lt)
  have kk14 : Keep h0 h14 [] := kk8.ext E14
  have zp14 : n0 ≤ h14.size := Nat.le_trans Z0 kk14.1
  refine own_go (fun tgt cont => st14 tgt cont) ?_
  show own_Go p e below s (Q_rm3 Z a u_v u_d u_e u_c ds es h0 n0) 7 150 (T14.setTop (mkF m 28 #[.val (.ref a)] [(.ref b14), (.ref b8), (.int u_v), (.ref b1), (.ref b1)]))
  obtain ⟨T20, X20, e20, st20⟩ := castY X14 hx hZ hown (hw _ (List.mem_of_getElem? (i := 45) rfl)) e14 (Ins.of_exa AE14 (hw _ (List.mem_of_getElem? (i := 46) rfl))) (g := (mkF m 28 #[.val (.ref a)] [(.ref b14), (.ref b8), (.int u_v), (.ref b1), (.ref b1)])) rfl rfl (hb hby d3_28)
  refine own_go (fun tgt cont => st20 tgt cont) ?_
  show own_Go p e below s (Q_rm3 Z a u_v u_d u_e u_c ds es h0 n0) 7 150 (T20.setTop (mkF m 31 #[.val (.ref a)] [(.ref b14), (.ref b8), (.int u_v), (.ref b1), (.ref b1)]))
  -- pc 31: Graph.<init>
  have f22 := (f19.ext E14)
  have f23 := ((F_vertexCount_b1.keep K8 nin0).ext E14)
  have f24 := ((F_ends_b1.keep K8 nin0).ext E14)
  have f25 := ((F_firstSlot_b1.keep K8 nin0).ext E14)
  have f26 := ((F_slotNeighbor_b1.keep K8 nin0).ext E14)
  have f27 := ((F_slotEdge_b1.keep K8 nin0).ext E14)
  have f28 := (ab8.ext E14)
  obtain ⟨_, _, ⟨T21, L21, k21, n21⟩, -, X21, ⟨Lc21, hQ21, l21, y21, z21⟩, st21⟩ := X20.specialBackNest hx (y := (⟨"com/example/cyclecut/cyclecut/graph/Graph", "<init>", "(I[I[I)V"⟩ : MethodName)) rfl hown (own_mvNM hZ (hw _ (List.mem_of_getElem? (i := 47) rfl))) (mvT hZ (hw _ (List.mem_of_getElem? (i := 48) rfl))) (mvT hZ (hw _ (List.mem_of_getElem? (i := 49) rfl))) (by decide) (backOf (W := 1) (rm6 l Z a0 hw [] b1 u_v b8 b14 (own_cof_l ((2 : Int32) * u_c) es) ds h14 n0 zp14 f22 f23 f24 f25 f26 f27 g_b1 f28 A14 hn h8 hle hds hGB) hZ (hw _ (List.mem_of_getElem? (i := 49) rfl)) (hw _ (List.mem_of_getElem? (i := 23) rfl)) (by decide) (by decide)) (g := (mkF m 31 #[.val (.ref a)] [(.ref b14), (.ref b8), (.int u_v), (.ref b1), (.ref b1)])) rfl (by rw [hml]; rfl) (Steps.refl _) (a := b1) (argsL := [(.int u_v), (.ref b8), (.ref b14)]) (rest := [(.ref b1)]) (lenOf own_pd3 rfl) rfl (by show 2 * 0 + _ ≤ _; exact Nat.le_of_eq rfl) (hb hby d3_31) (fun _ _ => ⟨rfl, e20, (by decide : 0 + 1 + 1 + 1 + 4 ≤ _), (by decide : 0 + 5 + 32 + 8 + 105 ≤ _)⟩)
  dsimp only [Pt.U, Pt.locs, Pt.cells, Pt.slots] at X21 l21 y21 z21 st21 hQ21
  subst l21 y21 z21
  have f29 := (f17.ext E14)
  have f30 := (f15.ext E14)
  have f31 := (f18.ext E14)
  have f32 := (eb8.ext E14)
  obtain ⟨b21_0, b21_1, b21_2, rfl, N21q, K21, ex21_0, fa21_0, fa21_1, fa21_2, fa21_3, fa21_4, gb21_0, ab21_0, eb21_0, gb21_1, ab21_1, eb21_1, gb21_2, ab21_2, eb21_2, ne_b21_0_b21_1, ne_b21_0_b21_2, ne_b21_1_b21_2⟩ := hQ21
  have N21 := Fr.app N8 N21q
  have g_b21_0 : n0 ≤ b21_0 := Nat.le_trans zp14 gb21_0
  have sz_b21_0 : h0.size ≤ b21_0 := Nat.le_trans kk14.1 gb21_0
  have ne_a_b21_0 : a ≠ b21_0 := Nat.ne_of_lt (Nat.lt_of_lt_of_le f29.lt gb21_0)
  have ne_u_d_b21_0 : u_d ≠ b21_0 := Nat.ne_of_lt (Nat.lt_of_lt_of_le f30.lt gb21_0)
  have ne_u_e_b21_0 : u_e ≠ b21_0 := Nat.ne_of_lt (Nat.lt_of_lt_of_le f31.lt gb21_0)
  have ne_b1_b21_0 : b1 ≠ b21_0 := Nat.ne_of_lt (Nat.lt_of_lt_of_le f22.lt gb21_0)
  have ne_b8_b21_0 : b8 ≠ b21_0 := Nat.ne_of_lt (Nat.lt_of_lt_of_le f32.lt gb21_0)
  have ne_b14_b21_0 : b14 ≠ b21_0 := Nat.ne_of_lt (Nat.lt_of_lt_of_le A14.lt gb21_0)
  have g_b21_1 : n0 ≤ b21_1 := Nat.le_trans zp14 gb21_1
  have sz_b21_1 : h0.size ≤ b21_1 := Nat.le_trans kk14.1 gb21_1
  have ne_a_b21_1 : a ≠ b21_1 := Nat.ne_of_lt (Nat.lt_of_lt_of_le f29.lt gb21_1)
  have ne_u_d_b21_1 : u_d ≠ b21_1 := Nat.ne_of_lt (Nat.lt_of_lt_of_le f30.lt gb21_1)
  have ne_u_e_b21_1 : u_e ≠ b21_1 := Nat.ne_of_lt (Nat.lt_of_lt_of_le f31.lt gb21_1)
  have ne_b1_b21_1 : b1 ≠ b21_1 := Nat.ne_of_lt (Nat.lt_of_lt_of_le f22.lt gb21_1)
  have ne_b8_b21_1 : b8 ≠ b21_1 := Nat.ne_of_lt (Nat.lt_of_lt_of_le f32.lt gb21_1)
  have ne_b14_b21_1 : b14 ≠ b21_1 := Nat.ne_of_lt (Nat.lt_of_lt_of_le A14.lt gb21_1)
  have g_b21_2 : n0 ≤ b21_2 := Nat.le_trans zp14 gb21_2
  have sz_b21_2 : h0.size ≤ b21_2 := Nat.le_trans kk14.1 gb21_2
  have ne_a_b21_2 : a ≠ b21_2 := Nat.ne_of_lt (Nat.lt_of_lt_of_le f29.lt gb21_2)
  have ne_u_d_b21_2 : u_d ≠ b21_2 := Nat.ne_of_lt (Nat.lt_of_lt_of_le f30.lt gb21_2)
  have ne_u_e_b21_2 : u_e ≠ b21_2 := Nat.ne_of_lt (Nat.lt_of_lt_of_le f31.lt gb21_2)
  have ne_b1_b21_2 : b1 ≠ b21_2 := Nat.ne_of_lt (Nat.lt_of_lt_of_le f22.lt gb21_2)
  have ne_b8_b21_2 : b8 ≠ b21_2 := Nat.ne_of_lt (Nat.lt_of_lt_of_le f32.lt gb21_2)
  have ne_b14_b21_2 : b14 ≠ b21_2 := Nat.ne_of_lt (Nat.lt_of_lt_of_le A14.lt gb21_2)
  have kk21 : Keep h0 T21.heap [] := kk14.trans K21 (allS (Or.inr sz_b1) all0)
  have zp21 : n0 ≤ T21.heap.size := Nat.le_trans Z0 kk21.1
  refine own_go (fun tgt cont => st21.trans cont) ?_
  show own_Go p e below s (Q_rm3 Z a u_v u_d u_e u_c ds es h0 n0) 7 150 (T21.setTop (mkF m 34 #[.val (.ref a)] [(.ref b1)]))
  refine own_end X21 (v := some (.ref b1)) (fun h => by rw [Bd.returns] at h; cases h) hlk ?_ (by decide) (by decide) (fun fs hl => retOut X21 hx Bd.returns rfl (Or.inr (Or.inr (Or.inr (Or.inr ⟨rfl, rfl, rfl⟩)))) (hb hby d3_34) hl)
  have f33 := (f28.keep K21 (ninS (Ne.symm ne_b1_b8) nin0))
  exact ⟨_, b8, b21_0, b21_1, b21_2, rfl, N21, kk21, sz_b1, ex21_0, fa21_0, fa21_1, fa21_2, fa21_3, fa21_4, f33, ab21_0, ab21_1, ab21_2⟩
def own_gec_r (es : List Int32) : Int32 := ((Int32.ofNat es.length) / (2 : Int32))
def Q_rm8 (Z : State) (a : Addr) (u_e : Addr) (es : List Int32) (h0 : Heap) (n0 : Nat) (v : Option Value) (h : Heap) (L : List Loc) : Prop := v = some (.int (own_gec_r es)) ∧ Fr n0 L ∧ h = h0
theorem d8_0 : decode prog_23_method_3_code 0 = .ok (.aload_n 0, 1) := by decide +kernel
theorem d8_1 : decode prog_23_method_3_code 1 = .ok (.getfield 13, 3) := by decide +kernel
theorem d8_4 : decode prog_23_method_3_code 4 = .ok (.arraylength, 1) := by decide +kernel
theorem d8_5 : decode prog_23_method_3_code 5 = .ok (.iconst 2, 1) := by decide +kernel
theorem d8_6 : decode prog_23_method_3_code 6 = .ok (.idiv, 1) := by decide +kernel
theorem d8_7 : decode prog_23_method_3_code 7 = .ok (.ireturn, 1) := by decide +kernel
set_option maxRecDepth 65536 in
set_option maxHeartbeats 40000000 in
theorem rm8 (l : Launch) (Z : State) (a0 : Array Value) (hw : ∀ d ∈ tables_1, d.before a0 Z = true) (ws : List Jvm.Cond) (a : Addr) (u_e : Addr) (es : List Int32) (h0 : Heap) (n0 : Nat) (Z0 : n0 ≤ h0.size) (E_a : Exa Z h0 a "com/example/cyclecut/cyclecut/graph/Graph") (F_a_ends : Fld Z h0 a "com/example/cyclecut/cyclecut/graph/Graph" "ends" "[I" (.ref u_e)) (A_u_e : own_IA Z h0 u_e es)  :
    MetFree l (⟨"com/example/cyclecut/cyclecut/graph/Graph", "edgeCount", "()I"⟩ : MethodName) (head1 (Jvm.Cond.code (⟨"com/example/cyclecut/cyclecut/graph/Graph", "edgeCount", "()I"⟩ : MethodName) prog_23_method_3_code 1 (some .int) :: ws) ({ frames := 0, cells := 0, slots := 0, locals := 0 } : Room)) (fun aa U => aa = #[(.ref a)] ∧ Z.Warmed39 U.vm ∧ U.heap = h0) (fun _ _ _ _ _ => True) (fun _ U o U' => ∃ v L, o = .returned v ∧ Q_rm8 Z a u_e es h0 n0 v U'.heap L ∧ FrameEnd U o U' L ({ frames := 0, cells := 0, slots := 0, locals := 0 } : Room).cells ({ frames := 0, cells := 0, slots := 0, locals := 0 } : Room).slots) := by
  refine MetFree.of_bodySF (plainFor_of_name own_pn4) hisR ?_
  intro p e s m args below meth c s₁ Bd hml0 hP hK
  obtain ⟨rfl, hZ, hh⟩ := hP
  have hx := Bd.exec
  have hby := Bd.bytes
  have hml : c.maxLocals = 1 := hml0
  have hlk : meth.locks = false := BodyLoose.notSynchronized Bd
  have hown : s.vm.findClass "com/example/cyclecut/cyclecut/graph/Graph" = some m.cls := findClass_of_methodNamed Bd.named
  have hnm := (name_of_methodNamed Bd.named Bd.method).1
  have X0 : Stand p l e ({ frames := 0, cells := 0, slots := 0, locals := 0 } : Room) s m #[(.ref a)] below meth c s₁ [] 0 0 := Stand.of_body Bd
  have e0 : s₁.heap = h0 := by rw [← hh, Bd.state]; rfl
  have N0 := Fr.nil n0
  show own_Go p e below s (Q_rm8 Z a u_e es h0 n0) 0 0 (s₁.setTop (entryFrame m #[(.ref a)] 1))
  refine own_go (B := s₁.setTop (mkF m 0 #[.val (.ref a)] [])) (fun tgt cont => (XT.entry rfl).trans cont) ?_
  have ne_a_u_e := own_neA E_a (hw _ (List.mem_of_getElem? (i := 22) rfl)) A_u_e.arr
  refine own_go (B := s₁.setTop (mkF m 1 #[.val (.ref a)] [(.ref a)])) (fun tgt cont => ?_) ?_
  · refine XS.aloadN X0.here hx rfl (hb hby d8_0) rfl rfl ?_
    exact cont
  obtain ⟨T1, X1, e1, st1⟩ := getF X0 hx hZ hown (host := "") (Or.inl (hw _ (List.mem_of_getElem? (i := 53) rfl))) Via.refl e0 F_a_ends (g := (mkF m 1 #[.val (.ref a)] [(.ref a)])) rfl rfl (hb hby d8_1)
  refine own_go (fun tgt cont => st1 tgt cont) ?_
  show own_Go p e below s (Q_rm8 Z a u_e es h0 n0) 0 0 (T1.setTop (mkF m 4 #[.val (.ref a)] [(.ref u_e)]))
  refine own_go (B := T1.setTop (mkF m 7 #[.val (.ref a)] [(.int ((Int32.ofNat es.length) / (2 : Int32)))])) (fun tgt cont => ?_) ?_
  · refine own_lenIA X1 hx hZ e1 A_u_e (g := (mkF m 4 #[.val (.ref a)] [(.ref u_e)])) rfl rfl (hb hby d8_4) ?_
    refine XT.iconstV X1.here hx rfl (2 : Int32) (hb hby d8_5) rfl ?_
    refine XS.idiv X1.here hx rfl (hb hby d8_6) rfl (by decide) ?_
    exact cont
  refine own_end X1 (v := some (.int ((Int32.ofNat es.length) / (2 : Int32)))) (fun h => by rw [Bd.returns] at h; cases h) hlk ?_ (by decide) (by decide) (fun fs hl => retI X1 hx Bd.returns (hb hby d8_7) hl)
  exact ⟨(by unfold own_gec_r; exact rfl), N0, e1⟩
def own_gfir_r (p1 : Int32) (es : List Int32) : Int32 := (es.getD ((2 : Int32) * (own_cx p1 (own_gec_r es))).toNatClampNeg 0)
def Q_rm17 (Z : State) (a : Addr) (p1 : Int32) (u_e : Addr) (es : List Int32) (h0 : Heap) (n0 : Nat) (v : Option Value) (h : Heap) (L : List Loc) : Prop := v = some (.int (own_gfir_r p1 es)) ∧ Fr n0 L ∧ h = h0
theorem own_pd4 : parseMethodDescriptor "()I" = some ⟨[], some .int⟩ := by decide +kernel
theorem d17_0 : decode prog_23_method_4_code 0 = .ok (.aload_n 0, 1) := by decide +kernel
theorem d17_1 : decode prog_23_method_4_code 1 = .ok (.getfield 13, 3) := by decide +kernel
theorem d17_4 : decode prog_23_method_4_code 4 = .ok (.iconst 2, 1) := by decide +kernel
theorem d17_5 : decode prog_23_method_4_code 5 = .ok (.iload_n 1, 1) := by decide +kernel
theorem d17_6 : decode prog_23_method_4_code 6 = .ok (.aload_n 0, 1) := by decide +kernel
theorem d17_7 : decode prog_23_method_4_code 7 = .ok (.invokevirtual 32, 3) := by decide +kernel
theorem d17_10 : decode prog_23_method_4_code 10 = .ok (.invokestatic 36, 3) := by decide +kernel
theorem d17_13 : decode prog_23_method_4_code 13 = .ok (.imul, 1) := by decide +kernel
theorem d17_14 : decode prog_23_method_4_code 14 = .ok (.iaload, 1) := by decide +kernel
theorem d17_15 : decode prog_23_method_4_code 15 = .ok (.ireturn, 1) := by decide +kernel
set_option maxRecDepth 65536 in
set_option maxHeartbeats 40000000 in
theorem rm17 (l : Launch) (Z : State) (a0 : Array Value) (hw : ∀ d ∈ tables_1, d.before a0 Z = true) (ws : List Jvm.Cond) (a : Addr) (p1 : Int32) (u_e : Addr) (es : List Int32) (h0 : Heap) (n0 : Nat) (Z0 : n0 ≤ h0.size) (E_a : Exa Z h0 a "com/example/cyclecut/cyclecut/graph/Graph") (F_a_ends : Fld Z h0 a "com/example/cyclecut/cyclecut/graph/Graph" "ends" "[I" (.ref u_e)) (A_u_e : own_IA Z h0 u_e es) (q1 : ¬ p1 < 0) (q2 : p1 < own_gec_r es) (q3 : ¬ ((2 : Int32) * (own_cx p1 (own_gec_r es))) < 0 ∧ ((2 : Int32) * (own_cx p1 (own_gec_r es))).toNatClampNeg < es.length) :
    MetFree l (⟨"com/example/cyclecut/cyclecut/graph/Graph", "firstEnd", "(I)I"⟩ : MethodName) (head1 (Jvm.Cond.code (⟨"com/example/cyclecut/cyclecut/graph/Graph", "firstEnd", "(I)I"⟩ : MethodName) prog_23_method_4_code 2 (some .int) :: ws) ({ frames := 2, cells := 0, slots := 0, locals := 29 } : Room)) (fun aa U => aa = #[(.ref a), (.int p1)] ∧ Z.Warmed39 U.vm ∧ U.heap = h0) (fun _ _ _ _ _ => True) (fun _ U o U' => ∃ v L, o = .returned v ∧ Q_rm17 Z a p1 u_e es h0 n0 v U'.heap L ∧ FrameEnd U o U' L ({ frames := 2, cells := 0, slots := 0, locals := 29 } : Room).cells ({ frames := 2, cells := 0, slots := 0, locals := 29 } : Room).slots) := by
  refine MetFree.of_bodySF (plainFor_of_name own_pn4) hisR ?_
  intro p e s m args below meth c s₁ Bd hml0 hP hK
  obtain ⟨rfl, hZ, hh⟩ := hP
  have hx := Bd.exec
  have hby := Bd.bytes
  have hml : c.maxLocals = 2 := hml0
  have hlk : meth.locks = false := BodyLoose.notSynchronized Bd
  have hown : s.vm.findClass "com/example/cyclecut/cyclecut/graph/Graph" = some m.cls := findClass_of_methodNamed Bd.named
  have hnm := (name_of_methodNamed Bd.named Bd.method).1
  have X0 : Stand p l e ({ frames := 2, cells := 0, slots := 0, locals := 29 } : Room) s m #[(.ref a), (.int p1)] below meth c s₁ [] 0 0 := Stand.of_body Bd
  have e0 : s₁.heap = h0 := by rw [← hh, Bd.state]; rfl
  have N0 := Fr.nil n0
  show own_Go p e below s (Q_rm17 Z a p1 u_e es h0 n0) 0 0 (s₁.setTop (entryFrame m #[(.ref a), (.int p1)] 2))
  refine own_go (B := s₁.setTop (mkF m 0 #[.val (.ref a), .val (.int p1)] [])) (fun tgt cont => (XT.entry rfl).trans cont) ?_
  have ne_a_u_e := own_neA E_a (hw _ (List.mem_of_getElem? (i := 22) rfl)) A_u_e.arr
  refine own_go (B := s₁.setTop (mkF m 1 #[.val (.ref a), .val (.int p1)] [(.ref a)])) (fun tgt cont => ?_) ?_
  · refine XS.aloadN X0.here hx rfl (hb hby d17_0) rfl rfl ?_
    exact cont
  obtain ⟨T1, X1, e1, st1⟩ := getF X0 hx hZ hown (host := "") (Or.inl (hw _ (List.mem_of_getElem? (i := 53) rfl))) Via.refl e0 F_a_ends (g := (mkF m 1 #[.val (.ref a), .val (.int p1)] [(.ref a)])) rfl rfl (hb hby d17_1)
  refine own_go (fun tgt cont => st1 tgt cont) ?_
  show own_Go p e below s (Q_rm17 Z a p1 u_e es h0 n0) 0 0 (T1.setTop (mkF m 4 #[.val (.ref a), .val (.int p1)] [(.ref u_e)]))
  refine own_go (B := T1.setTop (mkF m 7 #[.val (.ref a), .val (.int p1)] [(.ref a), (.int p1), (.int (2 : Int32)), (.ref u_e)])) (fun tgt cont => ?_) ?_
  · refine XT.iconstV X1.here hx rfl (2 : Int32) (hb hby d17_4) rfl ?_
    refine XS.iloadN X1.here hx rfl (hb hby d17_5) rfl ?_
    refine XS.aloadN X1.here hx rfl (hb hby d17_6) rfl rfl ?_
    exact cont
  -- pc 7: Graph.edgeCount
  obtain ⟨cq2, kq2, qa2, qb2, qc2⟩ := isOf hZ e1 E_a
  obtain ⟨_, _, ⟨T2, L2, k2, n2⟩, -, X2, ⟨Lc2, hQ2, l2, y2, z2⟩, st2⟩ := X1.virtualBack hx (y := (⟨"com/example/cyclecut/cyclecut/graph/Graph", "edgeCount", "()I"⟩ : MethodName)) (z := (⟨"com/example/cyclecut/cyclecut/graph/Graph", "edgeCount", "()I"⟩ : MethodName)) hown (mvT hZ (hw _ (List.mem_of_getElem? (i := 115) rfl))) (mvT hZ (hw _ (List.mem_of_getElem? (i := 68) rfl))) (notFace_of_selects (args := #[]) (mvT hZ (hw _ (List.mem_of_getElem? (i := 70) rfl)))) (mvT hZ (hw _ (List.mem_of_getElem? (i := 70) rfl))) (mvT hZ (hw _ (List.mem_of_getElem? (i := 69) rfl))) (by decide) (backOf (W := 3) (rm8 l Z a0 hw [] a u_e es h0 n0 Z0 E_a F_a_ends A_u_e) hZ (hw _ (List.mem_of_getElem? (i := 71) rfl)) (hw _ (List.mem_of_getElem? (i := 23) rfl)) (by decide) (by decide)) qa2 qc2 (g := (mkF m 7 #[.val (.ref a), .val (.int p1)] [(.ref a), (.int p1), (.int (2 : Int32)), (.ref u_e)])) rfl (by rw [hml]; rfl) (Steps.refl _) (argsL := []) (rest := [(.int p1), (.int (2 : Int32)), (.ref u_e)]) (lenOf own_pd4 rfl) rfl (by show 2 * 0 + _ ≤ _; exact Nat.le_of_eq rfl) (hb hby d17_7) (fun _ _ => ⟨rfl, e1, (by decide : 0 + 0 ≤ _), (by decide : 0 + 0 ≤ _)⟩)
  dsimp only [Pt.U, Pt.locs, Pt.cells, Pt.slots] at X2 l2 y2 z2 st2 hQ2
  subst l2 y2 z2
  obtain ⟨rfl, N2q, e2⟩ := hQ2
  have N2 := Fr.app N0 N2q
  refine own_go (fun tgt cont => st2.trans cont) ?_
  show own_Go p e below s (Q_rm17 Z a p1 u_e es h0 n0) 0 0 (T2.setTop (mkF m 10 #[.val (.ref a), .val (.int p1)] [(.int (own_gec_r es)), (.int p1), (.int (2 : Int32)), (.ref u_e)]))
  -- pc 10: Objects.checkIndex
  obtain ⟨_, _, ⟨T3, L3, k3, n3⟩, -, X3, ⟨Lc3, hQ3, l3, y3, z3⟩, st3⟩ := Jvm.LawKit.callS X2 hx (y := (⟨"java/util/Objects", "checkIndex", "(II)I"⟩ : MethodName)) hown (mvT hZ (hw _ (List.mem_of_getElem? (i := 77) rfl))) (mvT hZ (hw _ (List.mem_of_getElem? (i := 78) rfl))) (mvT hZ (hw _ (List.mem_of_getElem? (i := 79) rfl))) (mvT hZ (hw _ (List.mem_of_getElem? (i := 80) rfl))) (by decide) (backOf (W := 2) (rm10 l Z a0 hw [] p1 (own_gec_r es) h0 n0 Z0 q1 q2) hZ (hw _ (List.mem_of_getElem? (i := 80) rfl)) (hw _ (List.mem_of_getElem? (i := 79) rfl)) (by decide) (by decide)) (g := (mkF m 10 #[.val (.ref a), .val (.int p1)] [(.int (own_gec_r es)), (.int p1), (.int (2 : Int32)), (.ref u_e)])) rfl (by rw [hml]; rfl) (argsL := [(.int p1), (.int (own_gec_r es))]) (rest := [(.int (2 : Int32)), (.ref u_e)]) (lenOf own_pd1 rfl) rfl (by show 2 * 0 + _ ≤ _; exact Nat.le_of_eq rfl) (hb hby d17_10) (fun _ _ => ⟨rfl, e2, (by decide : 0 + 0 + 0 ≤ _), (by decide : 0 + 0 + 0 ≤ _)⟩)
  dsimp only [Pt.U, Pt.locs, Pt.cells, Pt.slots] at X3 l3 y3 z3 st3 hQ3
  subst l3 y3 z3
  obtain ⟨rfl, N3q, e3⟩ := hQ3
  have N3 := Fr.app N2 N3q
  refine own_go (fun tgt cont => st3 tgt cont) ?_
  show own_Go p e below s (Q_rm17 Z a p1 u_e es h0 n0) 0 0 (T3.setTop (mkF m 13 #[.val (.ref a), .val (.int p1)] [(.int (own_cx p1 (own_gec_r es))), (.int (2 : Int32)), (.ref u_e)]))
  refine own_go (B := T3.setTop (mkF m 15 #[.val (.ref a), .val (.int p1)] [(.int (es.getD ((2 : Int32) * (own_cx p1 (own_gec_r es))).toNatClampNeg 0))])) (fun tgt cont => ?_) ?_
  · refine XS.imul X3.here hx rfl (hb hby d17_13) rfl ?_
    refine own_ldIA X3 hx hZ e3 A_u_e (j := ((2 : Int32) * (own_cx p1 (own_gec_r es)))) q3 (g := (mkF m 14 #[.val (.ref a), .val (.int p1)] [(.int ((2 : Int32) * (own_cx p1 (own_gec_r es)))), (.ref u_e)])) rfl rfl (hb hby d17_14) ?_
    exact cont
  refine own_end X3 (v := some (.int (es.getD ((2 : Int32) * (own_cx p1 (own_gec_r es))).toNatClampNeg 0))) (fun h => by rw [Bd.returns] at h; cases h) hlk ?_ (by decide) (by decide) (fun fs hl => retI X3 hx Bd.returns (hb hby d17_15) hl)
  exact ⟨(by unfold own_gfir_r; exact rfl), N3, e3⟩
def own_gsec_r (p1 : Int32) (es : List Int32) : Int32 := (es.getD (((2 : Int32) * (own_cx p1 (own_gec_r es))) + (1 : Int32)).toNatClampNeg 0)
def Q_rm18 (Z : State) (a : Addr) (p1 : Int32) (u_e : Addr) (es : List Int32) (h0 : Heap) (n0 : Nat) (v : Option Value) (h : Heap) (L : List Loc) : Prop := v = some (.int (own_gsec_r p1 es)) ∧ Fr n0 L ∧ h = h0
theorem d18_0 : decode prog_23_method_5_code 0 = .ok (.aload_n 0, 1) := by decide +kernel
theorem d18_1 : decode prog_23_method_5_code 1 = .ok (.getfield 13, 3) := by decide +kernel
theorem d18_4 : decode prog_23_method_5_code 4 = .ok (.iconst 2, 1) := by decide +kernel
theorem d18_5 : decode prog_23_method_5_code 5 = .ok (.iload_n 1, 1) := by decide +kernel
theorem d18_6 : decode prog_23_method_5_code 6 = .ok (.aload_n 0, 1) := by decide +kernel
theorem d18_7 : decode prog_23_method_5_code 7 = .ok (.invokevirtual 32, 3) := by decide +kernel
theorem d18_10 : decode prog_23_method_5_code 10 = .ok (.invokestatic 36, 3) := by decide +kernel
theorem d18_13 : decode prog_23_method_5_code 13 = .ok (.imul, 1) := by decide +kernel
theorem d18_14 : decode prog_23_method_5_code 14 = .ok (.iconst 1, 1) := by decide +kernel
theorem d18_15 : decode prog_23_method_5_code 15 = .ok (.iadd, 1) := by decide +kernel
theorem d18_16 : decode prog_23_method_5_code 16 = .ok (.iaload, 1) := by decide +kernel
theorem d18_17 : decode prog_23_method_5_code 17 = .ok (.ireturn, 1) := by decide +kernel
set_option maxRecDepth 65536 in
set_option maxHeartbeats 40000000 in
theorem rm18 (l : Launch) (Z : State) (a0 : Array Value) (hw : ∀ d ∈ tables_1, d.before a0 Z = true) (ws : List Jvm.Cond) (a : Addr) (p1 : Int32) (u_e : Addr) (es : List Int32) (h0 : Heap) (n0 : Nat) (Z0 : n0 ≤ h0.size) (E_a : Exa Z h0 a "com/example/cyclecut/cyclecut/graph/Graph") (F_a_ends : Fld Z h0 a "com/example/cyclecut/cyclecut/graph/Graph" "ends" "[I" (.ref u_e)) (A_u_e : own_IA Z h0 u_e es) (q1 : ¬ p1 < 0) (q2 : p1 < own_gec_r es) (q3 : ¬ (((2 : Int32) * (own_cx p1 (own_gec_r es))) + (1 : Int32)) < 0 ∧ (((2 : Int32) * (own_cx p1 (own_gec_r es))) + (1 : Int32)).toNatClampNeg < es.length) :
    MetFree l (⟨"com/example/cyclecut/cyclecut/graph/Graph", "secondEnd", "(I)I"⟩ : MethodName) (head1 (Jvm.Cond.code (⟨"com/example/cyclecut/cyclecut/graph/Graph", "secondEnd", "(I)I"⟩ : MethodName) prog_23_method_5_code 2 (some .int) :: ws) ({ frames := 2, cells := 0, slots := 0, locals := 29 } : Room)) (fun aa U => aa = #[(.ref a), (.int p1)] ∧ Z.Warmed39 U.vm ∧ U.heap = h0) (fun _ _ _ _ _ => True) (fun _ U o U' => ∃ v L, o = .returned v ∧ Q_rm18 Z a p1 u_e es h0 n0 v U'.heap L ∧ FrameEnd U o U' L ({ frames := 2, cells := 0, slots := 0, locals := 29 } : Room).cells ({ frames := 2, cells := 0, slots := 0, locals := 29 } : Room).slots) := by
  refine MetFree.of_bodySF (plainFor_of_name own_pn4) hisR ?_
  intro p e s m args below meth c s₁ Bd hml0 hP hK
  obtain ⟨rfl, hZ, hh⟩ := hP
  have hx := Bd.exec
  have hby := Bd.bytes
  have hml : c.maxLocals = 2 := hml0
  have hlk : meth.locks = false := BodyLoose.notSynchronized Bd
  have hown : s.vm.findClass "com/example/cyclecut/cyclecut/graph/Graph" = some m.cls := findClass_of_methodNamed Bd.named
  have hnm := (name_of_methodNamed Bd.named Bd.method).1
  have X0 : Stand p l e ({ frames := 2, cells := 0, slots := 0, locals := 29 } : Room) s m #[(.ref a), (.int p1)] below meth c s₁ [] 0 0 := Stand.of_body Bd
  have e0 : s₁.heap = h0 := by rw [← hh, Bd.state]; rfl
  have N0 := Fr.nil n0
  show own_Go p e below s (Q_rm18 Z a p1 u_e es h0 n0) 0 0 (s₁.setTop (entryFrame m #[(.ref a), (.int p1)] 2))
  refine own_go (B := s₁.setTop (mkF m 0 #[.val (.ref a), .val (.int p1)] [])) (fun tgt cont => (XT.entry rfl).trans cont) ?_
  have ne_a_u_e := own_neA E_a (hw _ (List.mem_of_getElem? (i := 22) rfl)) A_u_e.arr
  refine own_go (B := s₁.setTop (mkF m 1 #[.val (.ref a), .val (.int p1)] [(.ref a)])) (fun tgt cont => ?_) ?_
  · refine XS.aloadN X0.here hx rfl (hb hby d18_0) rfl rfl ?_
    exact cont
  obtain ⟨T1, X1, e1, st1⟩ := getF X0 hx hZ hown (host := "") (Or.inl (hw _ (List.mem_of_getElem? (i := 53) rfl))) Via.refl e0 F_a_ends (g := (mkF m 1 #[.val (.ref a), .val (.int p1)] [(.ref a)])) rfl rfl (hb hby d18_1)
  refine own_go (fun tgt cont => st1 tgt cont) ?_
  show own_Go p e below s (Q_rm18 Z a p1 u_e es h0 n0) 0 0 (T1.setTop (mkF m 4 #[.val (.ref a), .val (.int p1)] [(.ref u_e)]))
  refine own_go (B := T1.setTop (mkF m 7 #[.val (.ref a), .val (.int p1)] [(.ref a), (.int p1), (.int (2 : Int32)), (.ref u_e)])) (fun tgt cont => ?_) ?_
  · refine XT.iconstV X1.here hx rfl (2 : Int32) (hb hby d18_4) rfl ?_
    refine XS.iloadN X1.here hx rfl (hb hby d18_5) rfl ?_
    refine XS.aloadN X1.here hx rfl (hb hby d18_6) rfl rfl ?_
    exact cont
  -- pc 7: Graph.edgeCount
  obtain ⟨cq2, kq2, qa2, qb2, qc2⟩ := isOf hZ e1 E_a
  obtain ⟨_, _, ⟨T2, L2, k2, n2⟩, -, X2, ⟨Lc2, hQ2, l2, y2, z2⟩, st2⟩ := X1.virtualBack hx (y := (⟨"com/example/cyclecut/cyclecut/graph/Graph", "edgeCount", "()I"⟩ : MethodName)) (z := (⟨"com/example/cyclecut/cyclecut/graph/Graph", "edgeCount", "()I"⟩ : MethodName)) hown (mvT hZ (hw _ (List.mem_of_getElem? (i := 115) rfl))) (mvT hZ (hw _ (List.mem_of_getElem? (i := 68) rfl))) (notFace_of_selects (args := #[]) (mvT hZ (hw _ (List.mem_of_getElem? (i := 70) rfl)))) (mvT hZ (hw _ (List.mem_of_getElem? (i := 70) rfl))) (mvT hZ (hw _ (List.mem_of_getElem? (i := 69) rfl))) (by decide) (backOf (W := 3) (rm8 l Z a0 hw [] a u_e es h0 n0 Z0 E_a F_a_ends A_u_e) hZ (hw _ (List.mem_of_getElem? (i := 71) rfl)) (hw _ (List.mem_of_getElem? (i := 23) rfl)) (by decide) (by decide)) qa2 qc2 (g := (mkF m 7 #[.val (.ref a), .val (.int p1)] [(.ref a), (.int p1), (.int (2 : Int32)), (.ref u_e)])) rfl (by rw [hml]; rfl) (Steps.refl _) (argsL := []) (rest := [(.int p1), (.int (2 : Int32)), (.ref u_e)]) (lenOf own_pd4 rfl) rfl (by show 2 * 0 + _ ≤ _; exact Nat.le_of_eq rfl) (hb hby d18_7) (fun _ _ => ⟨rfl, e1, (by decide : 0 + 0 ≤ _), (by decide : 0 + 0 ≤ _)⟩)
  dsimp only [Pt.U, Pt.locs, Pt.cells, Pt.slots] at X2 l2 y2 z2 st2 hQ2
  subst l2 y2 z2
  obtain ⟨rfl, N2q, e2⟩ := hQ2
  have N2 := Fr.app N0 N2q
  refine own_go (fun tgt cont => st2.trans cont) ?_
  show own_Go p e below s (Q_rm18 Z a p1 u_e es h0 n0) 0 0 (T2.setTop (mkF m 10 #[.val (.ref a), .val (.int p1)] [(.int (own_gec_r es)), (.int p1), (.int (2 : Int32)), (.ref u_e)]))
  -- pc 10: Objects.checkIndex
  obtain ⟨_, _, ⟨T3, L3, k3, n3⟩, -, X3, ⟨Lc3, hQ3, l3, y3, z3⟩, st3⟩ := Jvm.LawKit.callS X2 hx (y := (⟨"java/util/Objects", "checkIndex", "(II)I"⟩ : MethodName)) hown (mvT hZ (hw _ (List.mem_of_getElem? (i := 77) rfl))) (mvT hZ (hw _ (List.mem_of_getElem? (i := 78) rfl))) (mvT hZ (hw _ (List.mem_of_getElem? (i := 79) rfl))) (mvT hZ (hw _ (List.mem_of_getElem? (i := 80) rfl))) (by decide) (backOf (W := 2) (rm10 l Z a0 hw [] p1 (own_gec_r es) h0 n0 Z0 q1 q2) hZ (hw _ (List.mem_of_getElem? (i := 80) rfl)) (hw _ (List.mem_of_getElem? (i := 79) rfl)) (by decide) (by decide)) (g := (mkF m 10 #[.val (.ref a), .val (.int p1)] [(.int (own_gec_r es)), (.int p1), (.int (2 : Int32)), (.ref u_e)])) rfl (by rw [hml]; rfl) (argsL := [(.int p1), (.int (own_gec_r es))]) (rest := [(.int (2 : Int32)), (.ref u_e)]) (lenOf own_pd1 rfl) rfl (by show 2 * 0 + _ ≤ _; exact Nat.le_of_eq rfl) (hb hby d18_10) (fun _ _ => ⟨rfl, e2, (by decide : 0 + 0 + 0 ≤ _), (by decide : 0 + 0 + 0 ≤ _)⟩)
  dsimp only [Pt.U, Pt.locs, Pt.cells, Pt.slots] at X3 l3 y3 z3 st3 hQ3
  subst l3 y3 z3
  obtain ⟨rfl, N3q, e3⟩ := hQ3
  have N3 := Fr.app N2 N3q
  refine own_go (fun tgt cont => st3 tgt cont) ?_
  show own_Go p e below s (Q_rm18 Z a p1 u_e es h0 n0) 0 0 (T3.setTop (mkF m 13 #[.val (.ref a), .val (.int p1)] [(.int (own_cx p1 (own_gec_r es))), (.int (2 : Int32)), (.ref u_e)]))
  refine own_go (B := T3.setTop (mkF m 17 #[.val (.ref a), .val (.int p1)] [(.int (es.getD (((2 : Int32) * (own_cx p1 (own_gec_r es))) + (1 : Int32)).toNatClampNeg 0))])) (fun tgt cont => ?_) ?_
  · refine XS.imul X3.here hx rfl (hb hby d18_13) rfl ?_
    refine XT.iconstV X3.here hx rfl (1 : Int32) (hb hby d18_14) rfl ?_
    refine XS.iadd X3.here hx rfl (hb hby d18_15) rfl ?_
    refine own_ldIA X3 hx hZ e3 A_u_e (j := (((2 : Int32) * (own_cx p1 (own_gec_r es))) + (1 : Int32))) q3 (g := (mkF m 16 #[.val (.ref a), .val (.int p1)] [(.int (((2 : Int32) * (own_cx p1 (own_gec_r es))) + (1 : Int32))), (.ref u_e)])) rfl rfl (hb hby d18_16) ?_
    exact cont
  refine own_end X3 (v := some (.int (es.getD (((2 : Int32) * (own_cx p1 (own_gec_r es))) + (1 : Int32)).toNatClampNeg 0))) (fun h => by rw [Bd.returns] at h; cases h) hlk ?_ (by decide) (by decide) (fun fs hl => retI X3 hx Bd.returns (hb hby d18_17) hl)
  exact ⟨(by unfold own_gsec_r; exact rfl), N3, e3⟩
def Q_rm7 (Z : State) (a : Addr) (u_v : Int32) (h0 : Heap) (n0 : Nat) (v : Option Value) (h : Heap) (L : List Loc) : Prop := v = some (.int u_v) ∧ Fr n0 L ∧ h = h0
theorem d7_0 : decode prog_23_method_2_code 0 = .ok (.aload_n 0, 1) := by decide +kernel
theorem d7_1 : decode prog_23_method_2_code 1 = .ok (.getfield 7, 3) := by decide +kernel
theorem d7_4 : decode prog_23_method_2_code 4 = .ok (.ireturn, 1) := by decide +kernel
set_option maxRecDepth 65536 in
set_option maxHeartbeats 40000000 in
theorem rm7 (l : Launch) (Z : State) (a0 : Array Value) (hw : ∀ d ∈ tables_1, d.before a0 Z = true) (ws : List Jvm.Cond) (a : Addr) (u_v : Int32) (h0 : Heap) (n0 : Nat) (Z0 : n0 ≤ h0.size) (E_a : Exa Z h0 a "com/example/cyclecut/cyclecut/graph/Graph") (F_a_vertexCount : Fld Z h0 a "com/example/cyclecut/cyclecut/graph/Graph" "vertexCount" "I" (.int u_v))  :
    MetFree l (⟨"com/example/cyclecut/cyclecut/graph/Graph", "vertexCount", "()I"⟩ : MethodName) (head1 (Jvm.Cond.code (⟨"com/example/cyclecut/cyclecut/graph/Graph", "vertexCount", "()I"⟩ : MethodName) prog_23_method_2_code 1 (some .int) :: ws) ({ frames := 0, cells := 0, slots := 0, locals := 0 } : Room)) (fun aa U => aa = #[(.ref a)] ∧ Z.Warmed39 U.vm ∧ U.heap = h0) (fun _ _ _ _ _ => True) (fun _ U o U' => ∃ v L, o = .returned v ∧ Q_rm7 Z a u_v h0 n0 v U'.heap L ∧ FrameEnd U o U' L ({ frames := 0, cells := 0, slots := 0, locals := 0 } : Room).cells ({ frames := 0, cells := 0, slots := 0, locals := 0 } : Room).slots) := by
  refine MetFree.of_bodySF (plainFor_of_name own_pn4) hisR ?_
  intro p e s m args below meth c s₁ Bd hml0 hP hK
  obtain ⟨rfl, hZ, hh⟩ := hP
  have hx := Bd.exec
  have hby := Bd.bytes
  have hml : c.maxLocals = 1 := hml0
  have hlk : meth.locks = false := BodyLoose.notSynchronized Bd
  have hown : s.vm.findClass "com/example/cyclecut/cyclecut/graph/Graph" = some m.cls := findClass_of_methodNamed Bd.named
  have hnm := (name_of_methodNamed Bd.named Bd.method).1
  have X0 : Stand p l e ({ frames := 0, cells := 0, slots := 0, locals := 0 } : Room) s m #[(.ref a)] below meth c s₁ [] 0 0 := Stand.of_body Bd
  have e0 : s₁.heap = h0 := by rw [← hh, Bd.state]; rfl
  have N0 := Fr.nil n0
  show own_Go p e below s (Q_rm7 Z a u_v h0 n0) 0 0 (s₁.setTop (entryFrame m #[(.ref a)] 1))
  refine own_go (B := s₁.setTop (mkF m 0 #[.val (.ref a)] [])) (fun tgt cont => (XT.entry rfl).trans cont) ?_
  refine own_go (B := s₁.setTop (mkF m 1 #[.val (.ref a)] [(.ref a)])) (fun tgt cont => ?_) ?_
  · refine XS.aloadN X0.here hx rfl (hb hby d7_0) rfl rfl ?_
    exact cont
  obtain ⟨T1, X1, e1, st1⟩ := getF X0 hx hZ hown (host := "") (Or.inl (hw _ (List.mem_of_getElem? (i := 51) rfl))) Via.refl e0 F_a_vertexCount (g := (mkF m 1 #[.val (.ref a)] [(.ref a)])) rfl rfl (hb hby d7_1)
  refine own_go (fun tgt cont => st1 tgt cont) ?_
  show own_Go p e below s (Q_rm7 Z a u_v h0 n0) 0 0 (T1.setTop (mkF m 4 #[.val (.ref a)] [(.int u_v)]))
  refine own_end X1 (v := some (.int u_v)) (fun h => by rw [Bd.returns] at h; cases h) hlk ?_ (by decide) (by decide) (fun fs hl => retI X1 hx Bd.returns (hb hby d7_4) hl)
  exact ⟨rfl, N0, e1⟩
def own_gdg_r (p1 : Int32) (u_v : Int32) (fs : List Int32) : Int32 := ((fs.getD (p1 + (1 : Int32)).toNatClampNeg 0) - (fs.getD (own_cx p1 u_v).toNatClampNeg 0))
def Q_rm9 (Z : State) (a : Addr) (p1 : Int32) (u_v : Int32) (u_f : Addr) (fs : List Int32) (h0 : Heap) (n0 : Nat) (v : Option Value) (h : Heap) (L : List Loc) : Prop := v = some (.int (own_gdg_r p1 u_v fs)) ∧ Fr n0 L ∧ h = h0
theorem d9_0 : decode prog_23_method_6_code 0 = .ok (.aload_n 0, 1) := by decide +kernel
theorem d9_1 : decode prog_23_method_6_code 1 = .ok (.getfield 17, 3) := by decide +kernel
theorem d9_4 : decode prog_23_method_6_code 4 = .ok (.iload_n 1, 1) := by decide +kernel
theorem d9_5 : decode prog_23_method_6_code 5 = .ok (.aload_n 0, 1) := by decide +kernel
theorem d9_6 : decode prog_23_method_6_code 6 = .ok (.getfield 7, 3) := by decide +kernel
theorem d9_9 : decode prog_23_method_6_code 9 = .ok (.invokestatic 36, 3) := by decide +kernel
theorem d9_12 : decode prog_23_method_6_code 12 = .ok (.iaload, 1) := by decide +kernel
theorem d9_13 : decode prog_23_method_6_code 13 = .ok (.istore_n 2, 1) := by decide +kernel
theorem d9_14 : decode prog_23_method_6_code 14 = .ok (.aload_n 0, 1) := by decide +kernel
theorem d9_15 : decode prog_23_method_6_code 15 = .ok (.getfield 17, 3) := by decide +kernel
theorem d9_18 : decode prog_23_method_6_code 18 = .ok (.iload_n 1, 1) := by decide +kernel
theorem d9_19 : decode prog_23_method_6_code 19 = .ok (.iconst 1, 1) := by decide +kernel
theorem d9_20 : decode prog_23_method_6_code 20 = .ok (.iadd, 1) := by decide +kernel
theorem d9_21 : decode prog_23_method_6_code 21 = .ok (.iaload, 1) := by decide +kernel
theorem d9_22 : decode prog_23_method_6_code 22 = .ok (.iload_n 2, 1) := by decide +kernel
theorem d9_23 : decode prog_23_method_6_code 23 = .ok (.isub, 1) := by decide +kernel
theorem d9_24 : decode prog_23_method_6_code 24 = .ok (.ireturn, 1) := by decide +kernel
set_option maxRecDepth 65536 in
set_option maxHeartbeats 40000000 in
theorem rm9 (l : Launch) (Z : State) (a0 : Array Value) (hw : ∀ d ∈ tables_1, d.before a0 Z = true) (ws : List Jvm.Cond) (a : Addr) (p1 : Int32) (u_v : Int32) (u_f : Addr) (fs : List Int32) (h0 : Heap) (n0 : Nat) (Z0 : n0 ≤ h0.size) (E_a : Exa Z h0 a "com/example/cyclecut/cyclecut/graph/Graph") (F_a_vertexCount : Fld Z h0 a "com/example/cyclecut/cyclecut/graph/Graph" "vertexCount" "I" (.int u_v)) (F_a_firstSlot : Fld Z h0 a "com/example/cyclecut/cyclecut/graph/Graph" "firstSlot" "[I" (.ref u_f)) (A_u_f : own_IA Z h0 u_f fs) (q1 : ¬ p1 < 0) (q2 : p1 < u_v) (q3 : ¬ (own_cx p1 u_v) < 0 ∧ (own_cx p1 u_v).toNatClampNeg < fs.length) (q4 : ¬ (p1 + (1 : Int32)) < 0 ∧ (p1 + (1 : Int32)).toNatClampNeg < fs.length) :
    MetFree l (⟨"com/example/cyclecut/cyclecut/graph/Graph", "degree", "(I)I"⟩ : MethodName) (head1 (Jvm.Cond.code (⟨"com/example/cyclecut/cyclecut/graph/Graph", "degree", "(I)I"⟩ : MethodName) prog_23_method_6_code 3 (some .int) :: ws) ({ frames := 2, cells := 0, slots := 0, locals := 28 } : Room)) (fun aa U => aa = #[(.ref a), (.int p1)] ∧ Z.Warmed39 U.vm ∧ U.heap = h0) (fun _ _ _ _ _ => True) (fun _ U o U' => ∃ v L, o = .returned v ∧ Q_rm9 Z a p1 u_v u_f fs h0 n0 v U'.heap L ∧ FrameEnd U o U' L ({ frames := 2, cells := 0, slots := 0, locals := 28 } : Room).cells ({ frames := 2, cells := 0, slots := 0, locals := 28 } : Room).slots) := by
  refine MetFree.of_bodySF (plainFor_of_name own_pn4) hisR ?_
  intro p e s m args below meth c s₁ Bd hml0 hP hK
  obtain ⟨rfl, hZ, hh⟩ := hP
  have hx := Bd.exec
  have hby := Bd.bytes
  have hml : c.maxLocals = 3 := hml0
  have hlk : meth.locks = false := BodyLoose.notSynchronized Bd
  have hown : s.vm.findClass "com/example/cyclecut/cyclecut/graph/Graph" = some m.cls := findClass_of_methodNamed Bd.named
  have hnm := (name_of_methodNamed Bd.named Bd.method).1
  have X0 : Stand p l e ({ frames := 2, cells := 0, slots := 0, locals := 28 } : Room) s m #[(.ref a), (.int p1)] below meth c s₁ [] 0 0 := Stand.of_body Bd
  have e0 : s₁.heap = h0 := by rw [← hh, Bd.state]; rfl
  have N0 := Fr.nil n0
  show own_Go p e below s (Q_rm9 Z a p1 u_v u_f fs h0 n0) 0 0 (s₁.setTop (entryFrame m #[(.ref a), (.int p1)] 3))
  refine own_go (B := s₁.setTop (mkF m 0 #[.val (.ref a), .val (.int p1), .unset] [])) (fun tgt cont => (XT.entry rfl).trans cont) ?_
  have ne_a_u_f := own_neA E_a (hw _ (List.mem_of_getElem? (i := 22) rfl)) A_u_f.arr
  refine own_go (B := s₁.setTop (mkF m 1 #[.val (.ref a), .val (.int p1), .unset] [(.ref a)])) (fun tgt cont => ?_) ?_
  · refine XS.aloadN X0.here hx rfl (hb hby d9_0) rfl rfl ?_
    exact cont
  obtain ⟨T1, X1, e1, st1⟩ := getF X0 hx hZ hown (host := "") (Or.inl (hw _ (List.mem_of_getElem? (i := 55) rfl))) Via.refl e0 F_a_firstSlot (g := (mkF m 1 #[.val (.ref a), .val (.int p1), .unset] [(.ref a)])) rfl rfl (hb hby d9_1)
  refine own_go (fun tgt cont => st1 tgt cont) ?_
  show own_Go p e below s (Q_rm9 Z a p1 u_v u_f fs h0 n0) 0 0 (T1.setTop (mkF m 4 #[.val (.ref a), .val (.int p1), .unset] [(.ref u_f)]))
  refine own_go (B := T1.setTop (mkF m 6 #[.val (.ref a), .val (.int p1), .unset] [(.ref a), (.int p1), (.ref u_f)])) (fun tgt cont => ?_) ?_
  · refine XS.iloadN X1.here hx rfl (hb hby d9_4) rfl ?_
    refine XS.aloadN X1.here hx rfl (hb hby d9_5) rfl rfl ?_
    exact cont
  obtain ⟨T2, X2, e2, st2⟩ := getF X1 hx hZ hown (host := "") (Or.inl (hw _ (List.mem_of_getElem? (i := 51) rfl))) Via.refl e1 F_a_vertexCount (g := (mkF m 6 #[.val (.ref a), .val (.int p1), .unset] [(.ref a), (.int p1), (.ref u_f)])) rfl rfl (hb hby d9_6)
  refine own_go (fun tgt cont => st2 tgt cont) ?_
  show own_Go p e below s (Q_rm9 Z a p1 u_v u_f fs h0 n0) 0 0 (T2.setTop (mkF m 9 #[.val (.ref a), .val (.int p1), .unset] [(.int u_v), (.int p1), (.ref u_f)]))
  -- pc 9: Objects.checkIndex
  obtain ⟨_, _, ⟨T3, L3, k3, n3⟩, -, X3, ⟨Lc3, hQ3, l3, y3, z3⟩, st3⟩ := Jvm.LawKit.callS X2 hx (y := (⟨"java/util/Objects", "checkIndex", "(II)I"⟩ : MethodName)) hown (mvT hZ (hw _ (List.mem_of_getElem? (i := 77) rfl))) (mvT hZ (hw _ (List.mem_of_getElem? (i := 78) rfl))) (mvT hZ (hw _ (List.mem_of_getElem? (i := 79) rfl))) (mvT hZ (hw _ (List.mem_of_getElem? (i := 80) rfl))) (by decide) (backOf (W := 1) (rm10 l Z a0 hw [] p1 u_v h0 n0 Z0 q1 q2) hZ (hw _ (List.mem_of_getElem? (i := 80) rfl)) (hw _ (List.mem_of_getElem? (i := 79) rfl)) (by decide) (by decide)) (g := (mkF m 9 #[.val (.ref a), .val (.int p1), .unset] [(.int u_v), (.int p1), (.ref u_f)])) rfl (by rw [hml]; rfl) (argsL := [(.int p1), (.int u_v)]) (rest := [(.ref u_f)]) (lenOf own_pd1 rfl) rfl (by show 2 * 0 + _ ≤ _; exact Nat.le_of_eq rfl) (hb hby d9_9) (fun _ _ => ⟨rfl, e2, (by decide : 0 + 0 ≤ _), (by decide : 0 + 0 ≤ _)⟩)
  dsimp only [Pt.U, Pt.locs, Pt.cells, Pt.slots] at X3 l3 y3 z3 st3 hQ3
  subst l3 y3 z3
  obtain ⟨rfl, N3q, e3⟩ := hQ3
  have N3 := Fr.app N0 N3q
  refine own_go (fun tgt cont => st3 tgt cont) ?_
  show own_Go p e below s (Q_rm9 Z a p1 u_v u_f fs h0 n0) 0 0 (T3.setTop (mkF m 12 #[.val (.ref a), .val (.int p1), .unset] [(.int (own_cx p1 u_v)), (.ref u_f)]))
  refine own_go (B := T3.setTop (mkF m 15 #[.val (.ref a), .val (.int p1), .val (.int (fs.getD (own_cx p1 u_v).toNatClampNeg 0))] [(.ref a)])) (fun tgt cont => ?_) ?_
  · refine own_ldIA X3 hx hZ e3 A_u_f (j := (own_cx p1 u_v)) q3 (g := (mkF m 12 #[.val (.ref a), .val (.int p1), .unset] [(.int (own_cx p1 u_v)), (.ref u_f)])) rfl rfl (hb hby d9_12) ?_
    refine XS.istoreN X3.here hx rfl (hb hby d9_13) rfl (l' := #[.val (.ref a), .val (.int p1), .val (.int (fs.getD (own_cx p1 u_v).toNatClampNeg 0))]) rfl ?_
    refine XS.aloadN X3.here hx rfl (hb hby d9_14) rfl rfl ?_
    exact cont
  obtain ⟨T4, X4, e4, st4⟩ := getF X3 hx hZ hown (host := "") (Or.inl (hw _ (List.mem_of_getElem? (i := 55) rfl))) Via.refl e3 F_a_firstSlot (g := (mkF m 15 #[.val (.ref a), .val (.int p1), .val (.int (fs.getD (own_cx p1 u_v).toNatClampNeg 0))] [(.ref a)])) rfl rfl (hb hby d9_15)
  refine own_go (fun tgt cont => st4 tgt cont) ?_
  show own_Go p e below s (Q_rm9 Z a p1 u_v u_f fs h0 n0) 0 0 (T4.setTop (mkF m 18 #[.val (.ref a), .val (.int p1), .val (.int (fs.getD (own_cx p1 u_v).toNatClampNeg 0))] [(.ref u_f)]))
  refine own_go (B := T4.setTop (mkF m 24 #[.val (.ref a), .val (.int p1), .val (.int (fs.getD (own_cx p1 u_v).toNatClampNeg 0))] [(.int ((fs.getD (p1 + (1 : Int32)).toNatClampNeg 0) - (fs.getD (own_cx p1 u_v).toNatClampNeg 0)))])) (fun tgt cont => ?_) ?_
  · refine XS.iloadN X4.here hx rfl (hb hby d9_18) rfl ?_
    refine XT.iconstV X4.here hx rfl (1 : Int32) (hb hby d9_19) rfl ?_
    refine XS.iadd X4.here hx rfl (hb hby d9_20) rfl ?_
    refine own_ldIA X4 hx hZ e4 A_u_f (j := (p1 + (1 : Int32))) q4 (g := (mkF m 21 #[.val (.ref a), .val (.int p1), .val (.int (fs.getD (own_cx p1 u_v).toNatClampNeg 0))] [(.int (p1 + (1 : Int32))), (.ref u_f)])) rfl rfl (hb hby d9_21) ?_
    refine XS.iloadN X4.here hx rfl (hb hby d9_22) rfl ?_
    refine XS.isub X4.here hx rfl (hb hby d9_23) rfl ?_
    exact cont
  refine own_end X4 (v := some (.int ((fs.getD (p1 + (1 : Int32)).toNatClampNeg 0) - (fs.getD (own_cx p1 u_v).toNatClampNeg 0)))) (fun h => by rw [Bd.returns] at h; cases h) hlk ?_ (by decide) (by decide) (fun fs hl => retI X4 hx Bd.returns (hb hby d9_24) hl)
  exact ⟨(by unfold own_gdg_r; exact rfl), N3, e4⟩
def own_gsl_r (p1 : Int32) (p2 : Int32) (u_v : Int32) (fs : List Int32) : Int32 := ((fs.getD p1.toNatClampNeg 0) + (own_cx p2 (own_gdg_r p1 u_v fs)))
def Q_rm15 (Z : State) (a : Addr) (p1 : Int32) (p2 : Int32) (u_v : Int32) (u_f : Addr) (fs : List Int32) (h0 : Heap) (n0 : Nat) (v : Option Value) (h : Heap) (L : List Loc) : Prop := v = some (.int (own_gsl_r p1 p2 u_v fs)) ∧ Fr n0 L ∧ h = h0
theorem own_pd5 : parseMethodDescriptor "(I)I" = some ⟨[.int], some .int⟩ := by decide +kernel
theorem d15_0 : decode prog_23_method_14_code 0 = .ok (.aload_n 0, 1) := by decide +kernel
theorem d15_1 : decode prog_23_method_14_code 1 = .ok (.getfield 17, 3) := by decide +kernel
theorem d15_4 : decode prog_23_method_14_code 4 = .ok (.iload_n 1, 1) := by decide +kernel
theorem d15_5 : decode prog_23_method_14_code 5 = .ok (.iaload, 1) := by decide +kernel
theorem d15_6 : decode prog_23_method_14_code 6 = .ok (.iload_n 2, 1) := by decide +kernel
theorem d15_7 : decode prog_23_method_14_code 7 = .ok (.aload_n 0, 1) := by decide +kernel
theorem d15_8 : decode prog_23_method_14_code 8 = .ok (.iload_n 1, 1) := by decide +kernel
theorem d15_9 : decode prog_23_method_14_code 9 = .ok (.invokevirtual 49, 3) := by decide +kernel
theorem d15_12 : decode prog_23_method_14_code 12 = .ok (.invokestatic 36, 3) := by decide +kernel
theorem d15_15 : decode prog_23_method_14_code 15 = .ok (.iadd, 1) := by decide +kernel
theorem d15_16 : decode prog_23_method_14_code 16 = .ok (.ireturn, 1) := by decide +kernel
set_option maxRecDepth 65536 in
set_option maxHeartbeats 40000000 in
theorem rm15 (l : Launch) (Z : State) (a0 : Array Value) (hw : ∀ d ∈ tables_1, d.before a0 Z = true) (ws : List Jvm.Cond) (a : Addr) (p1 : Int32) (p2 : Int32) (u_v : Int32) (u_f : Addr) (fs : List Int32) (h0 : Heap) (n0 : Nat) (Z0 : n0 ≤ h0.size) (E_a : Exa Z h0 a "com/example/cyclecut/cyclecut/graph/Graph") (F_a_vertexCount : Fld Z h0 a "com/example/cyclecut/cyclecut/graph/Graph" "vertexCount" "I" (.int u_v)) (F_a_firstSlot : Fld Z h0 a "com/example/cyclecut/cyclecut/graph/Graph" "firstSlot" "[I" (.ref u_f)) (A_u_f : own_IA Z h0 u_f fs) (q0 : ¬ p1 < 0 ∧ p1.toNatClampNeg < fs.length) (q1 : ¬ p1 < 0) (q2 : p1 < u_v) (q3 : ¬ (own_cx p1 u_v) < 0 ∧ (own_cx p1 u_v).toNatClampNeg < fs.length) (q4 : ¬ (p1 + (1 : Int32)) < 0 ∧ (p1 + (1 : Int32)).toNatClampNeg < fs.length) (t1 : ¬ p2 < 0) (t2 : p2 < own_gdg_r p1 u_v fs) :
    MetFree l (⟨"com/example/cyclecut/cyclecut/graph/Graph", "slot", "(II)I"⟩ : MethodName) (head1 (Jvm.Cond.code (⟨"com/example/cyclecut/cyclecut/graph/Graph", "slot", "(II)I"⟩ : MethodName) prog_23_method_14_code 3 (some .int) :: ws) ({ frames := 3, cells := 0, slots := 0, locals := 44 } : Room)) (fun aa U => aa = #[(.ref a), (.int p1), (.int p2)] ∧ Z.Warmed39 U.vm ∧ U.heap = h0) (fun _ _ _ _ _ => True) (fun _ U o U' => ∃ v L, o = .returned v ∧ Q_rm15 Z a p1 p2 u_v u_f fs h0 n0 v U'.heap L ∧ FrameEnd U o U' L ({ frames := 3, cells := 0, slots := 0, locals := 44 } : Room).cells ({ frames := 3, cells := 0, slots := 0, locals := 44 } : Room).slots) := by
  refine MetFree.of_bodySF (plainFor_of_name own_pn4) hisR ?_
  intro p e s m args below meth c s₁ Bd hml0 hP hK
  obtain ⟨rfl, hZ, hh⟩ := hP
  have hx := Bd.exec
  have hby := Bd.bytes
  have hml : c.maxLocals = 3 := hml0
  have hlk : meth.locks = false := BodyLoose.notSynchronized Bd
  have hown : s.vm.findClass "com/example/cyclecut/cyclecut/graph/Graph" = some m.cls := findClass_of_methodNamed Bd.named
  have hnm := (name_of_methodNamed Bd.named Bd.method).1
  have X0 : Stand p l e ({ frames := 3, cells := 0, slots := 0, locals := 44 } : Room) s m #[(.ref a), (.int p1), (.int p2)] below meth c s₁ [] 0 0 := Stand.of_body Bd
  have e0 : s₁.heap = h0 := by rw [← hh, Bd.state]; rfl
  have N0 := Fr.nil n0
  show own_Go p e below s (Q_rm15 Z a p1 p2 u_v u_f fs h0 n0) 0 0 (s₁.setTop (entryFrame m #[(.ref a), (.int p1), (.int p2)] 3))
  refine own_go (B := s₁.setTop (mkF m 0 #[.val (.ref a), .val (.int p1), .val (.int p2)] [])) (fun tgt cont => (XT.entry rfl).trans cont) ?_
  have ne_a_u_f := own_neA E_a (hw _ (List.mem_of_getElem? (i := 22) rfl)) A_u_f.arr
  refine own_go (B := s₁.setTop (mkF m 1 #[.val (.ref a), .val (.int p1), .val (.int p2)] [(.ref a)])) (fun tgt cont => ?_) ?_
  · refine XS.aloadN X0.here hx rfl (hb hby d15_0) rfl rfl ?_
    exact cont
  obtain ⟨T1, X1, e1, st1⟩ := getF X0 hx hZ hown (host := "") (Or.inl (hw _ (List.mem_of_getElem? (i := 55) rfl))) Via.refl e0 F_a_firstSlot (g := (mkF m 1 #[.val (.ref a), .val (.int p1), .val (.int p2)] [(.ref a)])) rfl rfl (hb hby d15_1)
  refine own_go (fun tgt cont => st1 tgt cont) ?_
  show own_Go p e below s (Q_rm15 Z a p1 p2 u_v u_f fs h0 n0) 0 0 (T1.setTop (mkF m 4 #[.val (.ref a), .val (.int p1), .val (.int p2)] [(.ref u_f)]))
  refine own_go (B := T1.setTop (mkF m 9 #[.val (.ref a), .val (.int p1), .val (.int p2)] [(.int p1), (.ref a), (.int p2), (.int (fs.getD p1.toNatClampNeg 0))])) (fun tgt cont => ?_) ?_
  · refine XS.iloadN X1.here hx rfl (hb hby d15_4) rfl ?_
    refine own_ldIA X1 hx hZ e1 A_u_f (j := p1) q0 (g := (mkF m 5 #[.val (.ref a), .val (.int p1), .val (.int p2)] [(.int p1), (.ref u_f)])) rfl rfl (hb hby d15_5) ?_
    refine XS.iloadN X1.here hx rfl (hb hby d15_6) rfl ?_
    refine XS.aloadN X1.here hx rfl (hb hby d15_7) rfl rfl ?_
    refine XS.iloadN X1.here hx rfl (hb hby d15_8) rfl ?_
    exact cont
  -- pc 9: Graph.degree
  obtain ⟨cq2, kq2, qa2, qb2, qc2⟩ := isOf hZ e1 E_a
  obtain ⟨_, _, ⟨T2, L2, k2, n2⟩, -, X2, ⟨Lc2, hQ2, l2, y2, z2⟩, st2⟩ := X1.virtualBack hx (y := (⟨"com/example/cyclecut/cyclecut/graph/Graph", "degree", "(I)I"⟩ : MethodName)) (z := (⟨"com/example/cyclecut/cyclecut/graph/Graph", "degree", "(I)I"⟩ : MethodName)) hown (mvT hZ (hw _ (List.mem_of_getElem? (i := 104) rfl))) (mvT hZ (hw _ (List.mem_of_getElem? (i := 73) rfl))) (notFace_of_selects (args := #[]) (mvT hZ (hw _ (List.mem_of_getElem? (i := 75) rfl)))) (mvT hZ (hw _ (List.mem_of_getElem? (i := 75) rfl))) (mvT hZ (hw _ (List.mem_of_getElem? (i := 74) rfl))) (by decide) (backOf (W := 2) (rm9 l Z a0 hw [] a p1 u_v u_f fs h0 n0 Z0 E_a F_a_vertexCount F_a_firstSlot A_u_f q1 q2 q3 q4) hZ (hw _ (List.mem_of_getElem? (i := 76) rfl)) (hw _ (List.mem_of_getElem? (i := 23) rfl)) (by decide) (by decide)) qa2 qc2 (g := (mkF m 9 #[.val (.ref a), .val (.int p1), .val (.int p2)] [(.int p1), (.ref a), (.int p2), (.int (fs.getD p1.toNatClampNeg 0))])) rfl (by rw [hml]; rfl) (Steps.refl _) (argsL := [(.int p1)]) (rest := [(.int p2), (.int (fs.getD p1.toNatClampNeg 0))]) (lenOf own_pd5 rfl) rfl (by show 2 * 0 + _ ≤ _; exact Nat.le_of_eq rfl) (hb hby d15_9) (fun _ _ => ⟨rfl, e1, (by decide : 0 + 0 ≤ _), (by decide : 0 + 0 ≤ _)⟩)
  dsimp only [Pt.U, Pt.locs, Pt.cells, Pt.slots] at X2 l2 y2 z2 st2 hQ2
  subst l2 y2 z2
  obtain ⟨rfl, N2q, e2⟩ := hQ2
  have N2 := Fr.app N0 N2q
  refine own_go (fun tgt cont => st2.trans cont) ?_
  show own_Go p e below s (Q_rm15 Z a p1 p2 u_v u_f fs h0 n0) 0 0 (T2.setTop (mkF m 12 #[.val (.ref a), .val (.int p1), .val (.int p2)] [(.int (own_gdg_r p1 u_v fs)), (.int p2), (.int (fs.getD p1.toNatClampNeg 0))]))
  -- pc 12: Objects.checkIndex
  obtain ⟨_, _, ⟨T3, L3, k3, n3⟩, -, X3, ⟨Lc3, hQ3, l3, y3, z3⟩, st3⟩ := Jvm.LawKit.callS X2 hx (y := (⟨"java/util/Objects", "checkIndex", "(II)I"⟩ : MethodName)) hown (mvT hZ (hw _ (List.mem_of_getElem? (i := 77) rfl))) (mvT hZ (hw _ (List.mem_of_getElem? (i := 78) rfl))) (mvT hZ (hw _ (List.mem_of_getElem? (i := 79) rfl))) (mvT hZ (hw _ (List.mem_of_getElem? (i := 80) rfl))) (by decide) (backOf (W := 1) (rm10 l Z a0 hw [] p2 (own_gdg_r p1 u_v fs) h0 n0 Z0 t1 t2) hZ (hw _ (List.mem_of_getElem? (i := 80) rfl)) (hw _ (List.mem_of_getElem? (i := 79) rfl)) (by decide) (by decide)) (g := (mkF m 12 #[.val (.ref a), .val (.int p1), .val (.int p2)] [(.int (own_gdg_r p1 u_v fs)), (.int p2), (.int (fs.getD p1.toNatClampNeg 0))])) rfl (by rw [hml]; rfl) (argsL := [(.int p2), (.int (own_gdg_r p1 u_v fs))]) (rest := [(.int (fs.getD p1.toNatClampNeg 0))]) (lenOf own_pd1 rfl) rfl (by show 2 * 0 + _ ≤ _; exact Nat.le_of_eq rfl) (hb hby d15_12) (fun _ _ => ⟨rfl, e2, (by decide : 0 + 0 + 0 ≤ _), (by decide : 0 + 0 + 0 ≤ _)⟩)
  dsimp only [Pt.U, Pt.locs, Pt.cells, Pt.slots] at X3 l3 y3 z3 st3 hQ3
  subst l3 y3 z3
  obtain ⟨rfl, N3q, e3⟩ := hQ3
  have N3 := Fr.app N2 N3q
  refine own_go (fun tgt cont => st3 tgt cont) ?_
  show own_Go p e below s (Q_rm15 Z a p1 p2 u_v u_f fs h0 n0) 0 0 (T3.setTop (mkF m 15 #[.val (.ref a), .val (.int p1), .val (.int p2)] [(.int (own_cx p2 (own_gdg_r p1 u_v fs))), (.int (fs.getD p1.toNatClampNeg 0))]))
  refine own_go (B := T3.setTop (mkF m 16 #[.val (.ref a), .val (.int p1), .val (.int p2)] [(.int ((fs.getD p1.toNatClampNeg 0) + (own_cx p2 (own_gdg_r p1 u_v fs))))])) (fun tgt cont => ?_) ?_
  · refine XS.iadd X3.here hx rfl (hb hby d15_15) rfl ?_
    exact cont
  refine own_end X3 (v := some (.int ((fs.getD p1.toNatClampNeg 0) + (own_cx p2 (own_gdg_r p1 u_v fs))))) (fun h => by rw [Bd.returns] at h; cases h) hlk ?_ (by decide) (by decide) (fun fs hl => retI X3 hx Bd.returns (hb hby d15_16) hl)
  exact ⟨(by unfold own_gsl_r; exact rfl), N3, e3⟩
def own_gnei_r (p1 : Int32) (p2 : Int32) (u_v : Int32) (fs : List Int32) (ns : List Int32) : Int32 := (ns.getD (own_gsl_r p1 p2 u_v fs).toNatClampNeg 0)
def Q_rm14 (Z : State) (a : Addr) (p1 : Int32) (p2 : Int32) (u_v : Int32) (u_f : Addr) (u_n : Addr) (fs : List Int32) (ns : List Int32) (h0 : Heap) (n0 : Nat) (v : Option Value) (h : Heap) (L : List Loc) : Prop := v = some (.int (own_gnei_r p1 p2 u_v fs ns)) ∧ Fr n0 L ∧ h = h0
theorem d14_0 : decode prog_23_method_7_code 0 = .ok (.aload_n 0, 1) := by decide +kernel
theorem d14_1 : decode prog_23_method_7_code 1 = .ok (.getfield 20, 3) := by decide +kernel
theorem d14_4 : decode prog_23_method_7_code 4 = .ok (.aload_n 0, 1) := by decide +kernel
theorem d14_5 : decode prog_23_method_7_code 5 = .ok (.iload_n 1, 1) := by decide +kernel
theorem d14_6 : decode prog_23_method_7_code 6 = .ok (.iload_n 2, 1) := by decide +kernel
theorem d14_7 : decode prog_23_method_7_code 7 = .ok (.invokevirtual 42, 3) := by decide +kernel
theorem d14_10 : decode prog_23_method_7_code 10 = .ok (.iaload, 1) := by decide +kernel
theorem d14_11 : decode prog_23_method_7_code 11 = .ok (.ireturn, 1) := by decide +kernel
set_option maxRecDepth 65536 in
set_option maxHeartbeats 40000000 in
theorem rm14 (l : Launch) (Z : State) (a0 : Array Value) (hw : ∀ d ∈ tables_1, d.before a0 Z = true) (ws : List Jvm.Cond) (a : Addr) (p1 : Int32) (p2 : Int32) (u_v : Int32) (u_f : Addr) (u_n : Addr) (fs : List Int32) (ns : List Int32) (h0 : Heap) (n0 : Nat) (Z0 : n0 ≤ h0.size) (E_a : Exa Z h0 a "com/example/cyclecut/cyclecut/graph/Graph") (F_a_vertexCount : Fld Z h0 a "com/example/cyclecut/cyclecut/graph/Graph" "vertexCount" "I" (.int u_v)) (F_a_firstSlot : Fld Z h0 a "com/example/cyclecut/cyclecut/graph/Graph" "firstSlot" "[I" (.ref u_f)) (F_a_slotNeighbor : Fld Z h0 a "com/example/cyclecut/cyclecut/graph/Graph" "slotNeighbor" "[I" (.ref u_n)) (A_u_f : own_IA Z h0 u_f fs) (A_u_n : own_IA Z h0 u_n ns) (q0 : ¬ p1 < 0 ∧ p1.toNatClampNeg < fs.length) (q1 : ¬ p1 < 0) (q2 : p1 < u_v) (q3 : ¬ (own_cx p1 u_v) < 0 ∧ (own_cx p1 u_v).toNatClampNeg < fs.length) (q4 : ¬ (p1 + (1 : Int32)) < 0 ∧ (p1 + (1 : Int32)).toNatClampNeg < fs.length) (t1 : ¬ p2 < 0) (t2 : p2 < own_gdg_r p1 u_v fs) (q6 : ¬ (own_gsl_r p1 p2 u_v fs) < 0 ∧ (own_gsl_r p1 p2 u_v fs).toNatClampNeg < ns.length) :
    MetFree l (⟨"com/example/cyclecut/cyclecut/graph/Graph", "neighbor", "(II)I"⟩ : MethodName) (head1 (Jvm.Cond.code (⟨"com/example/cyclecut/cyclecut/graph/Graph", "neighbor", "(II)I"⟩ : MethodName) prog_23_method_7_code 3 (some .int) :: ws) ({ frames := 4, cells := 0, slots := 0, locals := 59 } : Room)) (fun aa U => aa = #[(.ref a), (.int p1), (.int p2)] ∧ Z.Warmed39 U.vm ∧ U.heap = h0) (fun _ _ _ _ _ => True) (fun _ U o U' => ∃ v L, o = .returned v ∧ Q_rm14 Z a p1 p2 u_v u_f u_n fs ns h0 n0 v U'.heap L ∧ FrameEnd U o U' L ({ frames := 4, cells := 0, slots := 0, locals := 59 } : Room).cells ({ frames := 4, cells := 0, slots := 0, locals := 59 } : Room).slots) := by
  refine MetFree.of_bodySF (plainFor_of_name own_pn4) hisR ?_
  intro p e s m args below meth c s₁ Bd hml0 hP hK
  obtain ⟨rfl, hZ, hh⟩ := hP
  have hx := Bd.exec
  have hby := Bd.bytes
  have hml : c.maxLocals = 3 := hml0
  have hlk : meth.locks = false := BodyLoose.notSynchronized Bd
  have hown : s.vm.findClass "com/example/cyclecut/cyclecut/graph/Graph" = some m.cls := findClass_of_methodNamed Bd.named
  have hnm := (name_of_methodNamed Bd.named Bd.method).1
  have X0 : Stand p l e ({ frames := 4, cells := 0, slots := 0, locals := 59 } : Room) s m #[(.ref a), (.int p1), (.int p2)] below meth c s₁ [] 0 0 := Stand.of_body Bd
  have e0 : s₁.heap = h0 := by rw [← hh, Bd.state]; rfl
  have N0 := Fr.nil n0
  show own_Go p e below s (Q_rm14 Z a p1 p2 u_v u_f u_n fs ns h0 n0) 0 0 (s₁.setTop (entryFrame m #[(.ref a), (.int p1), (.int p2)] 3))
  refine own_go (B := s₁.setTop (mkF m 0 #[.val (.ref a), .val (.int p1), .val (.int p2)] [])) (fun tgt cont => (XT.entry rfl).trans cont) ?_
  have ne_a_u_f := own_neA E_a (hw _ (List.mem_of_getElem? (i := 22) rfl)) A_u_f.arr
  have ne_a_u_n := own_neA E_a (hw _ (List.mem_of_getElem? (i := 22) rfl)) A_u_n.arr
  refine own_go (B := s₁.setTop (mkF m 1 #[.val (.ref a), .val (.int p1), .val (.int p2)] [(.ref a)])) (fun tgt cont => ?_) ?_
  · refine XS.aloadN X0.here hx rfl (hb hby d14_0) rfl rfl ?_
    exact cont
  obtain ⟨T1, X1, e1, st1⟩ := getF X0 hx hZ hown (host := "") (Or.inl (hw _ (List.mem_of_getElem? (i := 57) rfl))) Via.refl e0 F_a_slotNeighbor (g := (mkF m 1 #[.val (.ref a), .val (.int p1), .val (.int p2)] [(.ref a)])) rfl rfl (hb hby d14_1)
  refine own_go (fun tgt cont => st1 tgt cont) ?_
  show own_Go p e below s (Q_rm14 Z a p1 p2 u_v u_f u_n fs ns h0 n0) 0 0 (T1.setTop (mkF m 4 #[.val (.ref a), .val (.int p1), .val (.int p2)] [(.ref u_n)]))
  refine own_go (B := T1.setTop (mkF m 7 #[.val (.ref a), .val (.int p1), .val (.int p2)] [(.int p2), (.int p1), (.ref a), (.ref u_n)])) (fun tgt cont => ?_) ?_
  · refine XS.aloadN X1.here hx rfl (hb hby d14_4) rfl rfl ?_
    refine XS.iloadN X1.here hx rfl (hb hby d14_5) rfl ?_
    refine XS.iloadN X1.here hx rfl (hb hby d14_6) rfl ?_
    exact cont
  -- pc 7: Graph.slot
  obtain ⟨cc2, ca2, cb2⟩ := E_a.cell
  obtain ⟨_, _, ⟨T2, L2, k2, n2⟩, -, X2, ⟨Lc2, hQ2, l2, y2, z2⟩, st2⟩ := X1.privateBack hx (y := (⟨"com/example/cyclecut/cyclecut/graph/Graph", "slot", "(II)I"⟩ : MethodName)) hown (mvT hZ (hw _ (List.mem_of_getElem? (i := 100) rfl))) (mvT hZ (hw _ (List.mem_of_getElem? (i := 101) rfl))) (own_selP hZ (hw _ (List.mem_of_getElem? (i := 22) rfl)) (hw _ (List.mem_of_getElem? (i := 101) rfl)) (hw _ (List.mem_of_getElem? (i := 102) rfl))) (Cond.privateMethod_at (mvP hZ (hw _ (List.mem_of_getElem? (i := 102) rfl)) (args := #[]))) (mvT hZ (hw _ (List.mem_of_getElem? (i := 103) rfl))) (by decide) (backOf (W := 1) (rm15 l Z a0 hw [] a p1 p2 u_v u_f fs h0 n0 Z0 E_a F_a_vertexCount F_a_firstSlot A_u_f q0 q1 q2 q3 q4 t1 t2) hZ (hw _ (List.mem_of_getElem? (i := 103) rfl)) (hw _ (List.mem_of_getElem? (i := 23) rfl)) (by decide) (by decide)) (g := (mkF m 7 #[.val (.ref a), .val (.int p1), .val (.int p2)] [(.int p2), (.int p1), (.ref a), (.ref u_n)])) rfl (by rw [hml]; rfl) (Steps.refl _) (a := a) (by rw [e1]; exact ca2) cb2 (argsL := [(.int p1), (.int p2)]) (rest := [(.ref u_n)]) (lenOf own_pd1 rfl) rfl (by show 2 * 0 + _ ≤ _; exact Nat.le_of_eq rfl) (hb hby d14_7) (fun _ _ => ⟨rfl, e1, (by decide : 0 + 0 ≤ _), (by decide : 0 + 0 ≤ _)⟩)
  dsimp only [Pt.U, Pt.locs, Pt.cells, Pt.slots] at X2 l2 y2 z2 st2 hQ2
  subst l2 y2 z2
  obtain ⟨rfl, N2q, e2⟩ := hQ2
  have N2 := Fr.app N0 N2q
  refine own_go (fun tgt cont => st2.trans cont) ?_
  show own_Go p e below s (Q_rm14 Z a p1 p2 u_v u_f u_n fs ns h0 n0) 0 0 (T2.setTop (mkF m 10 #[.val (.ref a), .val (.int p1), .val (.int p2)] [(.int (own_gsl_r p1 p2 u_v fs)), (.ref u_n)]))
  refine own_go (B := T2.setTop (mkF m 11 #[.val (.ref a), .val (.int p1), .val (.int p2)] [(.int (ns.getD (own_gsl_r p1 p2 u_v fs).toNatClampNeg 0))])) (fun tgt cont => ?_) ?_
  · refine own_ldIA X2 hx hZ e2 A_u_n (j := (own_gsl_r p1 p2 u_v fs)) q6 (g := (mkF m 10 #[.val (.ref a), .val (.int p1), .val (.int p2)] [(.int (own_gsl_r p1 p2 u_v fs)), (.ref u_n)])) rfl rfl (hb hby d14_10) ?_
    exact cont
  refine own_end X2 (v := some (.int (ns.getD (own_gsl_r p1 p2 u_v fs).toNatClampNeg 0))) (fun h => by rw [Bd.returns] at h; cases h) hlk ?_ (by decide) (by decide) (fun fs hl => retI X2 hx Bd.returns (hb hby d14_11) hl)
  exact ⟨(by unfold own_gnei_r; exact rfl), N2, e2⟩
def own_ginc_r (p1 : Int32) (p2 : Int32) (u_v : Int32) (fs : List Int32) (ms : List Int32) : Int32 := (ms.getD (own_gsl_r p1 p2 u_v fs).toNatClampNeg 0)
def Q_rm16 (Z : State) (a : Addr) (p1 : Int32) (p2 : Int32) (u_v : Int32) (u_f : Addr) (u_s : Addr) (fs : List Int32) (ms : List Int32) (h0 : Heap) (n0 : Nat) (v : Option Value) (h : Heap) (L : List Loc) : Prop := v = some (.int (own_ginc_r p1 p2 u_v fs ms)) ∧ Fr n0 L ∧ h = h0
theorem d16_0 : decode prog_23_method_8_code 0 = .ok (.aload_n 0, 1) := by decide +kernel
theorem d16_1 : decode prog_23_method_8_code 1 = .ok (.getfield 23, 3) := by decide +kernel
theorem d16_4 : decode prog_23_method_8_code 4 = .ok (.aload_n 0, 1) := by decide +kernel
theorem d16_5 : decode prog_23_method_8_code 5 = .ok (.iload_n 1, 1) := by decide +kernel
theorem d16_6 : decode prog_23_method_8_code 6 = .ok (.iload_n 2, 1) := by decide +kernel
theorem d16_7 : decode prog_23_method_8_code 7 = .ok (.invokevirtual 42, 3) := by decide +kernel
theorem d16_10 : decode prog_23_method_8_code 10 = .ok (.iaload, 1) := by decide +kernel
theorem d16_11 : decode prog_23_method_8_code 11 = .ok (.ireturn, 1) := by decide +kernel
set_option maxRecDepth 65536 in
set_option maxHeartbeats 40000000 in
theorem rm16 (l : Launch) (Z : State) (a0 : Array Value) (hw : ∀ d ∈ tables_1, d.before a0 Z = true) (ws : List Jvm.Cond) (a : Addr) (p1 : Int32) (p2 : Int32) (u_v : Int32) (u_f : Addr) (u_s : Addr) (fs : List Int32) (ms : List Int32) (h0 : Heap) (n0 : Nat) (Z0 : n0 ≤ h0.size) (E_a : Exa Z h0 a "com/example/cyclecut/cyclecut/graph/Graph") (F_a_vertexCount : Fld Z h0 a "com/example/cyclecut/cyclecut/graph/Graph" "vertexCount" "I" (.int u_v)) (F_a_firstSlot : Fld Z h0 a "com/example/cyclecut/cyclecut/graph/Graph" "firstSlot" "[I" (.ref u_f)) (F_a_slotEdge : Fld Z h0 a "com/example/cyclecut/cyclecut/graph/Graph" "slotEdge" "[I" (.ref u_s)) (A_u_f : own_IA Z h0 u_f fs) (A_u_s : own_IA Z h0 u_s ms) (q0 : ¬ p1 < 0 ∧ p1.toNatClampNeg < fs.length) (q1 : ¬ p1 < 0) (q2 : p1 < u_v) (q3 : ¬ (own_cx p1 u_v) < 0 ∧ (own_cx p1 u_v).toNatClampNeg < fs.length) (q4 : ¬ (p1 + (1 : Int32)) < 0 ∧ (p1 + (1 : Int32)).toNatClampNeg < fs.length) (t1 : ¬ p2 < 0) (t2 : p2 < own_gdg_r p1 u_v fs) (q6 : ¬ (own_gsl_r p1 p2 u_v fs) < 0 ∧ (own_gsl_r p1 p2 u_v fs).toNatClampNeg < ms.length) :
    MetFree l (⟨"com/example/cyclecut/cyclecut/graph/Graph", "incidentEdge", "(II)I"⟩ : MethodName) (head1 (Jvm.Cond.code (⟨"com/example/cyclecut/cyclecut/graph/Graph", "incidentEdge", "(II)I"⟩ : MethodName) prog_23_method_8_code 3 (some .int) :: ws) ({ frames := 4, cells := 0, slots := 0, locals := 59 } : Room)) (fun aa U => aa = #[(.ref a), (.int p1), (.int p2)] ∧ Z.Warmed39 U.vm ∧ U.heap = h0) (fun _ _ _ _ _ => True) (fun _ U o U' => ∃ v L, o = .returned v ∧ Q_rm16 Z a p1 p2 u_v u_f u_s fs ms h0 n0 v U'.heap L ∧ FrameEnd U o U' L ({ frames := 4, cells := 0, slots := 0, locals := 59 } : Room).cells ({ frames := 4, cells := 0, slots := 0, locals := 59 } : Room).slots) := by
  refine MetFree.of_bodySF (plainFor_of_name own_pn4) hisR ?_
  intro p e s m args below meth c s₁ Bd hml0 hP hK
  obtain ⟨rfl, hZ, hh⟩ := hP
  have hx := Bd.exec
  have hby := Bd.bytes
  have hml : c.maxLocals = 3 := hml0
  have hlk : meth.locks = false := BodyLoose.notSynchronized Bd
  have hown : s.vm.findClass "com/example/cyclecut/cyclecut/graph/Graph" = some m.cls := findClass_of_methodNamed Bd.named
  have hnm := (name_of_methodNamed Bd.named Bd.method).1
  have X0 : Stand p l e ({ frames := 4, cells := 0, slots := 0, locals := 59 } : Room) s m #[(.ref a), (.int p1), (.int p2)] below meth c s₁ [] 0 0 := Stand.of_body Bd
  have e0 : s₁.heap = h0 := by rw [← hh, Bd.state]; rfl
  have N0 := Fr.nil n0
  show own_Go p e below s (Q_rm16 Z a p1 p2 u_v u_f u_s fs ms h0 n0) 0 0 (s₁.setTop (entryFrame m #[(.ref a), (.int p1), (.int p2)] 3))
  refine own_go (B := s₁.setTop (mkF m 0 #[.val (.ref a), .val (.int p1), .val (.int p2)] [])) (fun tgt cont => (XT.entry rfl).trans cont) ?_
  have ne_a_u_f := own_neA E_a (hw _ (List.mem_of_getElem? (i := 22) rfl)) A_u_f.arr
  have ne_a_u_s := own_neA E_a (hw _ (List.mem_of_getElem? (i := 22) rfl)) A_u_s.arr
  refine own_go (B := s₁.setTop (mkF m 1 #[.val (.ref a), .val (.int p1), .val (.int p2)] [(.ref a)])) (fun tgt cont => ?_) ?_
  · refine XS.aloadN X0.here hx rfl (hb hby d16_0) rfl rfl ?_
    exact cont
  obtain ⟨T1, X1, e1, st1⟩ := getF X0 hx hZ hown (host := "") (Or.inl (hw _ (List.mem_of_getElem? (i := 59) rfl))) Via.refl e0 F_a_slotEdge (g := (mkF m 1 #[.val (.ref a), .val (.int p1), .val (.int p2)] [(.ref a)])) rfl rfl (hb hby d16_1)
  refine own_go (fun tgt cont => st1 tgt cont) ?_
  show own_Go p e below s (Q_rm16 Z a p1 p2 u_v u_f u_s fs ms h0 n0) 0 0 (T1.setTop (mkF m 4 #[.val (.ref a), .val (.int p1), .val (.int p2)] [(.ref u_s)]))
  refine own_go (B := T1.setTop (mkF m 7 #[.val (.ref a), .val (.int p1), .val (.int p2)] [(.int p2), (.int p1), (.ref a), (.ref u_s)])) (fun tgt cont => ?_) ?_
  · refine XS.aloadN X1.here hx rfl (hb hby d16_4) rfl rfl ?_
    refine XS.iloadN X1.here hx rfl (hb hby d16_5) rfl ?_
    refine XS.iloadN X1.here hx rfl (hb hby d16_6) rfl ?_
    exact cont
  -- pc 7: Graph.slot
  obtain ⟨cc2, ca2, cb2⟩ := E_a.cell
  obtain ⟨_, _, ⟨T2, L2, k2, n2⟩, -, X2, ⟨Lc2, hQ2, l2, y2, z2⟩, st2⟩ := X1.privateBack hx (y := (⟨"com/example/cyclecut/cyclecut/graph/Graph", "slot", "(II)I"⟩ : MethodName)) hown (mvT hZ (hw _ (List.mem_of_getElem? (i := 100) rfl))) (mvT hZ (hw _ (List.mem_of_getElem? (i := 101) rfl))) (own_selP hZ (hw _ (List.mem_of_getElem? (i := 22) rfl)) (hw _ (List.mem_of_getElem? (i := 101) rfl)) (hw _ (List.mem_of_getElem? (i := 102) rfl))) (Cond.privateMethod_at (mvP hZ (hw _ (List.mem_of_getElem? (i := 102) rfl)) (args := #[]))) (mvT hZ (hw _ (List.mem_of_getElem? (i := 103) rfl))) (by decide) (backOf (W := 1) (rm15 l Z a0 hw [] a p1 p2 u_v u_f fs h0 n0 Z0 E_a F_a_vertexCount F_a_firstSlot A_u_f q0 q1 q2 q3 q4 t1 t2) hZ (hw _ (List.mem_of_getElem? (i := 103) rfl)) (hw _ (List.mem_of_getElem? (i := 23) rfl)) (by decide) (by decide)) (g := (mkF m 7 #[.val (.ref a), .val (.int p1), .val (.int p2)] [(.int p2), (.int p1), (.ref a), (.ref u_s)])) rfl (by rw [hml]; rfl) (Steps.refl _) (a := a) (by rw [e1]; exact ca2) cb2 (argsL := [(.int p1), (.int p2)]) (rest := [(.ref u_s)]) (lenOf own_pd1 rfl) rfl (by show 2 * 0 + _ ≤ _; exact Nat.le_of_eq rfl) (hb hby d16_7) (fun _ _ => ⟨rfl, e1, (by decide : 0 + 0 ≤ _), (by decide : 0 + 0 ≤ _)⟩)
  dsimp only [Pt.U, Pt.locs, Pt.cells, Pt.slots] at X2 l2 y2 z2 st2 hQ2
  subst l2 y2 z2
  obtain ⟨rfl, N2q, e2⟩ := hQ2
  have N2 := Fr.app N0 N2q
  refine own_go (fun tgt cont => st2.trans cont) ?_
  show own_Go p e below s (Q_rm16 Z a p1 p2 u_v u_f u_s fs ms h0 n0) 0 0 (T2.setTop (mkF m 10 #[.val (.ref a), .val (.int p1), .val (.int p2)] [(.int (own_gsl_r p1 p2 u_v fs)), (.ref u_s)]))
  refine own_go (B := T2.setTop (mkF m 11 #[.val (.ref a), .val (.int p1), .val (.int p2)] [(.int (ms.getD (own_gsl_r p1 p2 u_v fs).toNatClampNeg 0))])) (fun tgt cont => ?_) ?_
  · refine own_ldIA X2 hx hZ e2 A_u_s (j := (own_gsl_r p1 p2 u_v fs)) q6 (g := (mkF m 10 #[.val (.ref a), .val (.int p1), .val (.int p2)] [(.int (own_gsl_r p1 p2 u_v fs)), (.ref u_s)])) rfl rfl (hb hby d16_10) ?_
    exact cont
  refine own_end X2 (v := some (.int (ms.getD (own_gsl_r p1 p2 u_v fs).toNatClampNeg 0))) (fun h => by rw [Bd.returns] at h; cases h) hlk ?_ (by decide) (by decide) (fun fs hl => retI X2 hx Bd.returns (hb hby d16_11) hl)
  exact ⟨(by unfold own_ginc_r; exact rfl), N2, e2⟩
def own_inc_r (p3 : Int32) (p4 : Int32) (p6 : Int32) (p7 : Int32) : Int32 := if p6 = p4 then if p7 = p4 then ((p3 + (1 : Int32)) + (1 : Int32)) else (p3 + (1 : Int32)) else if p7 = p4 then (p3 + (1 : Int32)) else p3
def own_inc_ns (p3 : Int32) (p4 : Int32) (p6 : Int32) (p7 : Int32) (ns : List Int32) : List Int32 := if p6 = p4 then if p7 = p4 then ((ns.set p3.toNatClampNeg p7).set (p3 + (1 : Int32)).toNatClampNeg p6) else (ns.set p3.toNatClampNeg p7) else if p7 = p4 then (ns.set p3.toNatClampNeg p6) else ns
def own_inc_ms (p3 : Int32) (p4 : Int32) (p5 : Int32) (p6 : Int32) (p7 : Int32) (ms : List Int32) : List Int32 := if p6 = p4 then if p7 = p4 then ((ms.set p3.toNatClampNeg p5).set (p3 + (1 : Int32)).toNatClampNeg p5) else (ms.set p3.toNatClampNeg p5) else if p7 = p4 then (ms.set p3.toNatClampNeg p5) else ms
def Q_rm13 (Z : State) (a : Addr) (b : Addr) (p3 : Int32) (p4 : Int32) (p5 : Int32) (p6 : Int32) (p7 : Int32) (ns : List Int32) (ms : List Int32) (h0 : Heap) (n0 : Nat) (v : Option Value) (h : Heap) (L : List Loc) : Prop := v = some (.int (own_inc_r p3 p4 p6 p7)) ∧ Fr n0 L ∧ Keep h0 h [a, b] ∧ own_IA Z h a (own_inc_ns p3 p4 p6 p7 ns) ∧ own_IA Z h b (own_inc_ms p3 p4 p5 p6 p7 ms)
theorem own_pn5 : plainName "com/example/cyclecut/cyclecut/graph/GraphBuilderBuildPinLaw" = true := by first | (simp [plainName, overriddenIn]; done) | decide +kernel
theorem d13_0 : decode method_2_code 0 = .ok (.iload_n 2, 1) := by decide +kernel
theorem d13_1 : decode method_2_code 1 = .ok (.istore 7, 2) := by decide +kernel
theorem d13_3 : decode method_2_code 3 = .ok (.iload 5, 2) := by decide +kernel
theorem d13_5 : decode method_2_code 5 = .ok (.iload_n 3, 1) := by decide +kernel
theorem d13_6 : decode method_2_code 6 = .ok (.if_icmp .ne 18, 3) := by decide +kernel
theorem d13_9 : decode method_2_code 9 = .ok (.aload_n 0, 1) := by decide +kernel
theorem d13_10 : decode method_2_code 10 = .ok (.iload 7, 2) := by decide +kernel
theorem d13_12 : decode method_2_code 12 = .ok (.iload 6, 2) := by decide +kernel
theorem d13_14 : decode method_2_code 14 = .ok (.iastore, 1) := by decide +kernel
theorem d13_15 : decode method_2_code 15 = .ok (.aload_n 1, 1) := by decide +kernel
theorem d13_16 : decode method_2_code 16 = .ok (.iload 7, 2) := by decide +kernel
theorem d13_18 : decode method_2_code 18 = .ok (.iload 4, 2) := by decide +kernel
theorem d13_20 : decode method_2_code 20 = .ok (.iastore, 1) := by decide +kernel
theorem d13_21 : decode method_2_code 21 = .ok (.iinc 7 1, 3) := by decide +kernel
theorem d13_24 : decode method_2_code 24 = .ok (.iload 6, 2) := by decide +kernel
theorem d13_26 : decode method_2_code 26 = .ok (.iload_n 3, 1) := by decide +kernel
theorem d13_27 : decode method_2_code 27 = .ok (.if_icmp .ne 18, 3) := by decide +kernel
theorem d13_30 : decode method_2_code 30 = .ok (.aload_n 0, 1) := by decide +kernel
theorem d13_31 : decode method_2_code 31 = .ok (.iload 7, 2) := by decide +kernel
theorem d13_33 : decode method_2_code 33 = .ok (.iload 5, 2) := by decide +kernel
theorem d13_35 : decode method_2_code 35 = .ok (.iastore, 1) := by decide +kernel
theorem d13_36 : decode method_2_code 36 = .ok (.aload_n 1, 1) := by decide +kernel
theorem d13_37 : decode method_2_code 37 = .ok (.iload 7, 2) := by decide +kernel
theorem d13_39 : decode method_2_code 39 = .ok (.iload 4, 2) := by decide +kernel
theorem d13_41 : decode method_2_code 41 = .ok (.iastore, 1) := by decide +kernel
theorem d13_42 : decode method_2_code 42 = .ok (.iinc 7 1, 3) := by decide +kernel
theorem d13_45 : decode method_2_code 45 = .ok (.iload 7, 2) := by decide +kernel
theorem d13_47 : decode method_2_code 47 = .ok (.ireturn, 1) := by decide +kernel
set_option maxRecDepth 65536 in
set_option maxHeartbeats 40000000 in
theorem rm13 (l : Launch) (Z : State) (a0 : Array Value) (hw : ∀ d ∈ tables_1, d.before a0 Z = true) (ws : List Jvm.Cond) (a : Addr) (b : Addr) (p3 : Int32) (p4 : Int32) (p5 : Int32) (p6 : Int32) (p7 : Int32) (ns : List Int32) (ms : List Int32) (h0 : Heap) (n0 : Nat) (Z0 : n0 ≤ h0.size) (A_a : own_IA Z h0 a ns) (g_a : n0 ≤ a) (A_b : own_IA Z h0 b ms) (g_b : n0 ≤ b) (ne_a_b : a ≠ b) (c1 : ¬ p3 < 0 ∧ p3.toNatClampNeg < ns.length) (c2 : ¬ p3 < 0 ∧ p3.toNatClampNeg < ms.length) (c3 : ¬ (p3 + (1 : Int32)) < 0 ∧ (p3 + (1 : Int32)).toNatClampNeg < ns.length) (c4 : ¬ (p3 + (1 : Int32)) < 0 ∧ (p3 + (1 : Int32)).toNatClampNeg < ms.length) :
    MetFree l (⟨"com/example/cyclecut/cyclecut/graph/GraphBuilderBuildPinLaw", "inc", "([I[IIIIII)I"⟩ : MethodName) (head1 (Jvm.Cond.code (⟨"com/example/cyclecut/cyclecut/graph/GraphBuilderBuildPinLaw", "inc", "([I[IIIIII)I"⟩ : MethodName) method_2_code 8 (some .int) :: ws) ({ frames := 0, cells := 0, slots := 0, locals := 0 } : Room)) (fun aa U => aa = #[(.ref a), (.ref b), (.int p3), (.int p4), (.int p5), (.int p6), (.int p7)] ∧ Z.Warmed39 U.vm ∧ U.heap = h0) (fun _ _ _ _ _ => True) (fun _ U o U' => ∃ v L, o = .returned v ∧ Q_rm13 Z a b p3 p4 p5 p6 p7 ns ms h0 n0 v U'.heap L ∧ FrameEnd U o U' L ({ frames := 0, cells := 0, slots := 0, locals := 0 } : Room).cells ({ frames := 0, cells := 0, slots := 0, locals := 0 } : Room).slots) := by
  refine MetFree.of_bodySF (plainFor_of_name own_pn5) hisR ?_
  intro p e s m args below meth c s₁ Bd hml0 hP hK
  obtain ⟨rfl, hZ, hh⟩ := hP
  have hx := Bd.exec
  have hby := Bd.bytes
  have hml : c.maxLocals = 8 := hml0
  have hlk : meth.locks = false := BodyLoose.notSynchronized Bd
  have hown : s.vm.findClass "com/example/cyclecut/cyclecut/graph/GraphBuilderBuildPinLaw" = some m.cls := findClass_of_methodNamed Bd.named
  have hnm := (name_of_methodNamed Bd.named Bd.method).1
  have X0 : Stand p l e ({ frames := 0, cells := 0, slots := 0, locals := 0 } : Room) s m #[(.ref a), (.ref b), (.int p3), (.int p4), (.int p5), (.int p6), (.int p7)] below meth c s₁ [] 0 0 := Stand.of_body Bd
  have e0 : s₁.heap = h0 := by rw [← hh, Bd.state]; rfl
  have N0 := Fr.nil n0
  show own_Go p e below s (Q_rm13 Z a b p3 p4 p5 p6 p7 ns ms h0 n0) 0 0 (s₁.setTop (entryFrame m #[(.ref a), (.ref b), (.int p3), (.int p4), (.int p5), (.int p6), (.int p7)] 8))
  refine own_go (B := s₁.setTop (mkF m 0 #[.val (.ref a), .val (.ref b), .val (.int p3), .val (.int p4), .val (.int p5), .val (.int p6), .val (.int p7), .unset] [])) (fun tgt cont => (XT.entry rfl).trans cont) ?_
  refine own_go (B := s₁.setTop (mkF m 6 #[.val (.ref a), .val (.ref b), .val (.int p3), .val (.int p4), .val (.int p5), .val (.int p6), .val (.int p7), .val (.int p3)] [(.int p4), (.int p6)])) (fun tgt cont => ?_) ?_
  · refine XS.iloadN X0.here hx rfl (hb hby d13_0) rfl ?_
    refine XS.istore X0.here hx rfl (hb hby d13_1) rfl (l' := #[.val (.ref a), .val (.ref b), .val (.int p3), .val (.int p4), .val (.int p5), .val (.int p6), .val (.int p7), .val (.int p3)]) rfl ?_
    refine XS.iload X0.here hx rfl (hb hby d13_3) rfl ?_
    refine XS.iloadN X0.here hx rfl (hb hby d13_5) rfl ?_
    exact cont
  by_cases hc1 : p6 = p4
  ·
    refine own_go (B := s₁.setTop (mkF m 14 #[.val (.ref a), .val (.ref b), .val (.int p3), .val (.int p4), .val (.int p5), .val (.int p6), .val (.int p7), .val (.int p3)] [(.int p7), (.int p3), (.ref a)])) (fun tgt cont => ?_) ?_
    · refine XS.icmpNo X0.here hx rfl (hb hby d13_6) rfl (XT.ii_ne_f hc1) ?_
      refine XS.aloadN X0.here hx rfl (hb hby d13_9) rfl rfl ?_
      refine XS.iload X0.here hx rfl (hb hby d13_10) rfl ?_
      refine XS.iload X0.here hx rfl (hb hby d13_12) rfl ?_
      exact cont
    obtain ⟨T2, h2, X2, e2, W2, A2, st2⟩ := own_stIA X0 hx hZ e0 A_a (j := p3) (x := p7) c1 (g := (mkF m 14 #[.val (.ref a), .val (.ref b), .val (.int p3), .val (.int p4), .val (.int p5), .val (.int p6), .val (.int p7), .val (.int p3)] [(.int p7), (.int p3), (.ref a)])) rfl rfl (hb hby d13_14)
    have N2 := Fr.snoc X2 N0 g_a
    have kk2 : Keep h0 h2 [a, b] := (Keep.refl h0 [a, b]).wr W2 (Or.inl (List.mem_of_getElem? (i := 0) rfl))
    have zp2 : n0 ≤ h2.size := Nat.le_trans Z0 kk2.1
    refine own_go (fun tgt cont => st2 tgt cont) ?_
    show own_Go p e below s (Q_rm13 Z a b p3 p4 p5 p6 p7 ns ms h0 n0) 0 0 (T2.setTop (mkF m 15 #[.val (.ref a), .val (.ref b), .val (.int p3), .val (.int p4), .val (.int p5), .val (.int p6), .val (.int p7), .val (.int p3)] []))
    refine own_go (B := T2.setTop (mkF m 20 #[.val (.ref a), .val (.ref b), .val (.int p3), .val (.int p4), .val (.int p5), .val (.int p6), .val (.int p7), .val (.int p3)] [(.int p5), (.int p3), (.ref b)])) (fun tgt cont => ?_) ?_
    · refine XS.aloadN X2.here hx rfl (hb hby d13_15) rfl rfl ?_
      refine XS.iload X2.here hx rfl (hb hby d13_16) rfl ?_
      refine XS.iload X2.here hx rfl (hb hby d13_18) rfl ?_
      exact cont
    have f3 := (A_b.other W2 (Ne.symm ne_a_b))
    obtain ⟨T4, h4, X4, e4, W4, A4, st4⟩ := own_stIA X2 hx hZ e2 f3 (j := p3) (x := p5) c2 (g := (mkF m 20 #[.val (.ref a), .val (.ref b), .val (.int p3), .val (.int p4), .val (.int p5), .val (.int p6), .val (.int p7), .val (.int p3)] [(.int p5), (.int p3), (.ref b)])) rfl rfl (hb hby d13_20)
    have N4 := Fr.snoc X4 N2 g_b
    have kk4 : Keep h0 h4 [a, b] := kk2.wr W4 (Or.inl (List.mem_of_getElem? (i := 1) rfl))
    have zp4 : n0 ≤ h4.size := Nat.le_trans Z0 kk4.1
    refine own_go (fun tgt cont => st4 tgt cont) ?_
    show own_Go p e below s (Q_rm13 Z a b p3 p4 p5 p6 p7 ns ms h0 n0) 0 0 (T4.setTop (mkF m 21 #[.val (.ref a), .val (.ref b), .val (.int p3), .val (.int p4), .val (.int p5), .val (.int p6), .val (.int p7), .val (.int p3)] []))
    refine own_go (B := T4.setTop (mkF m 27 #[.val (.ref a), .val (.ref b), .val (.int p3), .val (.int p4), .val (.int p5), .val (.int p6), .val (.int p7), .val (.int (p3 + (1 : Int32)))] [(.int p4), (.int p7)])) (fun tgt cont => ?_) ?_
    · refine XT.iincV X4.here hx rfl (1 : Int32) (hb hby d13_21) rfl rfl (l' := #[.val (.ref a), .val (.ref b), .val (.int p3), .val (.int p4), .val (.int p5), .val (.int p6), .val (.int p7), .val (.int (p3 + (1 : Int32)))]) rfl ?_
      refine XS.iload X4.here hx rfl (hb hby d13_24) rfl ?_
      refine XS.iloadN X4.here hx rfl (hb hby d13_26) rfl ?_
      exact cont
    by_cases hc5 : p7 = p4
    ·
      refine own_go (B := T4.setTop (mkF m 35 #[.val (.ref a), .val (.ref b), .val (.int p3), .val (.int p4), .val (.int p5), .val (.int p6), .val (.int p7), .val (.int (p3 + (1 : Int32)))] [(.int p6), (.int (p3 + (1 : Int32))), (.ref a)])) (fun tgt cont => ?_) ?_
      · refine XS.icmpNo X4.here hx rfl (hb hby d13_27) rfl (XT.ii_ne_f hc5) ?_
        refine XS.aloadN X4.here hx rfl (hb hby d13_30) rfl rfl ?_
        refine XS.iload X4.here hx rfl (hb hby d13_31) rfl ?_
        refine XS.iload X4.here hx rfl (hb hby d13_33) rfl ?_
        exact cont
      have f6 := (A2.other W4 ne_a_b)
      obtain ⟨T7, h7, X7, e7, W7, A7, st7⟩ := own_stIA X4 hx hZ e4 f6 (j := (p3 + (1 : Int32))) (x := p6) ⟨c3.1, by rw [List.length_set]; exact c3.2⟩ (g := (mkF m 35 #[.val (.ref a), .val (.ref b), .val (.int p3), .val (.int p4), .val (.int p5), .val (.int p6), .val (.int p7), .val (.int (p3 + (1 : Int32)))] [(.int p6), (.int (p3 + (1 : Int32))), (.ref a)])) rfl rfl (hb hby d13_35)
      have N7 := Fr.snoc X7 N4 g_a
      have kk7 : Keep h0 h7 [a, b] := kk4.wr W7 (Or.inl (List.mem_of_getElem? (i := 0) rfl))
      have zp7 : n0 ≤ h7.size := Nat.le_trans Z0 kk7.1
      refine own_go (fun tgt cont => st7 tgt cont) ?_
      show own_Go p e below s (Q_rm13 Z a b p3 p4 p5 p6 p7 ns ms h0 n0) 0 0 (T7.setTop (mkF m 36 #[.val (.ref a), .val (.ref b), .val (.int p3), .val (.int p4), .val (.int p5), .val (.int p6), .val (.int p7), .val (.int (p3 + (1 : Int32)))] []))
      refine own_go (B := T7.setTop (mkF m 41 #[.val (.ref a), .val (.ref b), .val (.int p3), .val (.int p4), .val (.int p5), .val (.int p6), .val (.int p7), .val (.int (p3 + (1 : Int32)))] [(.int p5), (.int (p3 + (1 : Int32))), (.ref b)])) (fun tgt cont => ?_) ?_
      · refine XS.aloadN X7.here hx rfl (hb hby d13_36) rfl rfl ?_
        refine XS.iload X7.here hx rfl (hb hby d13_37) rfl ?_
        refine XS.iload X7.here hx rfl (hb hby d13_39) rfl ?_
        exact cont
      have f8 := (A4.other W7 (Ne.symm ne_a_b))
      obtain ⟨T9, h9, X9, e9, W9, A9, st9⟩ := own_stIA X7 hx hZ e7 f8 (j := (p3 + (1 : Int32))) (x := p5) ⟨c4.1, by rw [List.length_set]; exact c4.2⟩ (g := (mkF m 41 #[.val (.ref a), .val (.ref b), .val (.int p3), .val (.int p4), .val (.int p5), .val (.int p6), .val (.int p7), .val (.int (p3 + (1 : Int32)))] [(.int p5), (.int (p3 + (1 : Int32))), (.ref b)])) rfl rfl (hb hby d13_41)
      have N9 := Fr.snoc X9 N7 g_b
      have kk9 : Keep h0 h9 [a, b] := kk7.wr W9 (Or.inl (List.mem_of_getElem? (i := 1) rfl))
      have zp9 : n0 ≤ h9.size := Nat.le_trans Z0 kk9.1
      refine own_go (fun tgt cont => st9 tgt cont) ?_
      show own_Go p e below s (Q_rm13 Z a b p3 p4 p5 p6 p7 ns ms h0 n0) 0 0 (T9.setTop (mkF m 42 #[.val (.ref a), .val (.ref b), .val (.int p3), .val (.int p4), .val (.int p5), .val (.int p6), .val (.int p7), .val (.int (p3 + (1 : Int32)))] []))
      refine own_go (B := T9.setTop (mkF m 47 #[.val (.ref a), .val (.ref b), .val (.int p3), .val (.int p4), .val (.int p5), .val (.int p6), .val (.int p7), .val (.int ((p3 + (1 : Int32)) + (1 : Int32)))] [(.int ((p3 + (1 : Int32)) + (1 : Int32)))])) (fun tgt cont => ?_) ?_
      · refine XT.iincV X9.here hx rfl (1 : Int32) (hb hby d13_42) rfl rfl (l' := #[.val (.ref a), .val (.ref b), .val (.int p3), .val (.int p4), .val (.int p5), .val (.int p6), .val (.int p7), .val (.int ((p3 + (1 : Int32)) + (1 : Int32)))]) rfl ?_
        refine XS.iload X9.here hx rfl (hb hby d13_45) rfl ?_
        exact cont
      refine own_end X9 (v := some (.int ((p3 + (1 : Int32)) + (1 : Int32)))) (fun h => by rw [Bd.returns] at h; cases h) hlk ?_ (by decide) (by decide) (fun fs hl => retI X9 hx Bd.returns (hb hby d13_47) hl)
      have f10 := (A7.other W9 ne_a_b)
      rw [e9]
      exact ⟨(by unfold own_inc_r; first | (simp only [if_pos hc1, if_pos hc5]; done) | (simp only [if_pos hc1, if_pos hc5]; exact rfl) | exact rfl), N9, kk9, (by unfold own_inc_ns; first | (simp only [if_pos hc1, if_pos hc5]; done) | (simp only [if_pos hc1, if_pos hc5]; exact f10) | exact f10), (by unfold own_inc_ms; first | (simp only [if_pos hc1, if_pos hc5]; done) | (simp only [if_pos hc1, if_pos hc5]; exact A9) | exact A9)⟩
    ·
      refine own_go (B := T4.setTop (mkF m 47 #[.val (.ref a), .val (.ref b), .val (.int p3), .val (.int p4), .val (.int p5), .val (.int p6), .val (.int p7), .val (.int (p3 + (1 : Int32)))] [(.int (p3 + (1 : Int32)))])) (fun tgt cont => ?_) ?_
      · refine XS.icmpYes X4.here hx rfl (pc0 := 27) (pc' := 45) rfl (hb hby d13_27) rfl (XT.ii_ne_t hc5) (by decide) (by decide) ?_
        refine XS.iload X4.here hx rfl (hb hby d13_45) rfl ?_
        exact cont
      refine own_end X4 (v := some (.int (p3 + (1 : Int32)))) (fun h => by rw [Bd.returns] at h; cases h) hlk ?_ (by decide) (by decide) (fun fs hl => retI X4 hx Bd.returns (hb hby d13_47) hl)
      have f11 := (A2.other W4 ne_a_b)
      rw [e4]
      exact ⟨(by unfold own_inc_r; first | (simp only [if_pos hc1, if_neg hc5]; done) | (simp only [if_pos hc1, if_neg hc5]; exact rfl) | exact rfl), N4, kk4, (by unfold own_inc_ns; first | (simp only [if_pos hc1, if_neg hc5]; done) | (simp only [if_pos hc1, if_neg hc5]; exact f11) | exact f11), (by unfold own_inc_ms; first | (simp only [if_pos hc1, if_neg hc5]; done) | (simp only [if_pos hc1, if_neg hc5]; exact A4) | exact A4)⟩
  ·
    refine own_go (B := s₁.setTop (mkF m 27 #[.val (.ref a), .val (.ref b), .val (.int p3), .val (.int p4), .val (.int p5), .val (.int p6), .val (.int p7), .val (.int p3)] [(.int p4), (.int p7)])) (fun tgt cont => ?_) ?_
    · refine XS.icmpYes X0.here hx rfl (pc0 := 6) (pc' := 24) rfl (hb hby d13_6) rfl (XT.ii_ne_t hc1) (by decide) (by decide) ?_
      refine XS.iload X0.here hx rfl (hb hby d13_24) rfl ?_
      refine XS.iloadN X0.here hx rfl (hb hby d13_26) rfl ?_
      exact cont
    by_cases hc12 : p7 = p4
    ·
      refine own_go (B := s₁.setTop (mkF m 35 #[.val (.ref a), .val (.ref b), .val (.int p3), .val (.int p4), .val (.int p5), .val (.int p6), .val (.int p7), .val (.int p3)] [(.int p6), (.int p3), (.ref a)])) (fun tgt cont => ?_) ?_
      · refine XS.icmpNo X0.here hx rfl (hb hby d13_27) rfl (XT.ii_ne_f hc12) ?_
        refine XS.aloadN X0.here hx rfl (hb hby d13_30) rfl rfl ?_
        refine XS.iload X0.here hx rfl (hb hby d13_31) rfl ?_
        refine XS.iload X0.here hx rfl (hb hby d13_33) rfl ?_
        exact cont
      obtain ⟨T13, h13, X13, e13, W13, A13, st13⟩ := own_stIA X0 hx hZ e0 A_a (j := p3) (x := p6) c1 (g := (mkF m 35 #[.val (.ref a), .val (.ref b), .val (.int p3), .val (.int p4), .val (.int p5), .val (.int p6), .val (.int p7), .val (.int p3)] [(.int p6), (.int p3), (.ref a)])) rfl rfl (hb hby d13_35)
      have N13 := Fr.snoc X13 N0 g_a
      have kk13 : Keep h0 h13 [a, b] := (Keep.refl h0 [a, b]).wr W13 (Or.inl (List.mem_of_getElem? (i := 0) rfl))
      have zp13 : n0 ≤ h13.size := Nat.le_trans Z0 kk13.1
      refine own_go (fun tgt cont => st13 tgt cont) ?_
      show own_Go p e below s (Q_rm13 Z a b p3 p4 p5 p6 p7 ns ms h0 n0) 0 0 (T13.setTop (mkF m 36 #[.val (.ref a), .val (.ref b), .val (.int p3), .val (.int p4), .val (.int p5), .val (.int p6), .val (.int p7), .val (.int p3)] []))
      refine own_go (B := T13.setTop (mkF m 41 #[.val (.ref a), .val (.ref b), .val (.int p3), .val (.int p4), .val (.int p5), .val (.int p6), .val (.int p7), .val (.int p3)] [(.int p5), (.int p3), (.ref b)])) (fun tgt cont => ?_) ?_
      · refine XS.aloadN X13.here hx rfl (hb hby d13_36) rfl rfl ?_
        refine XS.iload X13.here hx rfl (hb hby d13_37) rfl ?_
        refine XS.iload X13.here hx rfl (hb hby d13_39) rfl ?_
        exact cont
      have f14 := (A_b.other W13 (Ne.symm ne_a_b))
      obtain ⟨T15, h15, X15, e15, W15, A15, st15⟩ := own_stIA X13 hx hZ e13 f14 (j := p3) (x := p5) c2 (g := (mkF m 41 #[.val (.ref a), .val (.ref b), .val (.int p3), .val (.int p4), .val (.int p5), .val (.int p6), .val (.int p7), .val (.int p3)] [(.int p5), (.int p3), (.ref b)])) rfl rfl (hb hby d13_41)
      have N15 := Fr.snoc X15 N13 g_b
      have kk15 : Keep h0 h15 [a, b] := kk13.wr W15 (Or.inl (List.mem_of_getElem? (i := 1) rfl))
      have zp15 : n0 ≤ h15.size := Nat.le_trans Z0 kk15.1
      refine own_go (fun tgt cont => st15 tgt cont) ?_
      show own_Go p e below s (Q_rm13 Z a b p3 p4 p5 p6 p7 ns ms h0 n0) 0 0 (T15.setTop (mkF m 42 #[.val (.ref a), .val (.ref b), .val (.int p3), .val (.int p4), .val (.int p5), .val (.int p6), .val (.int p7), .val (.int p3)] []))
      refine own_go (B := T15.setTop (mkF m 47 #[.val (.ref a), .val (.ref b), .val (.int p3), .val (.int p4), .val (.int p5), .val (.int p6), .val (.int p7), .val (.int (p3 + (1 : Int32)))] [(.int (p3 + (1 : Int32)))])) (fun tgt cont => ?_) ?_
      · refine XT.iincV X15.here hx rfl (1 : Int32) (hb hby d13_42) rfl rfl (l' := #[.val (.ref a), .val (.ref b), .val (.int p3), .val (.int p4), .val (.int p5), .val (.int p6), .val (.int p7), .val (.int (p3 + (1 : Int32)))]) rfl ?_
        refine XS.iload X15.here hx rfl (hb hby d13_45) rfl ?_
        exact cont
      refine own_end X15 (v := some (.int (p3 + (1 : Int32)))) (fun h => by rw [Bd.returns] at h; cases h) hlk ?_ (by decide) (by decide) (fun fs hl => retI X15 hx Bd.returns (hb hby d13_47) hl)
      have f16 := (A13.other W15 ne_a_b)
      rw [e15]
      exact ⟨(by unfold own_inc_r; first | (simp only [if_neg hc1, if_pos hc12]; done) | (simp only [if_neg hc1, if_pos hc12]; exact rfl) | exact rfl), N15, kk15, (by unfold own_inc_ns; first | (simp only [if_neg hc1, if_pos hc12]; done) | (simp only [if_neg hc1, if_pos hc12]; exact f16) | exact f16), (by unfold own_inc_ms; first | (simp only [if_neg hc1, if_pos hc12]; done) | (simp only [if_neg hc1, if_pos hc12]; exact A15) | exact A15)⟩
    ·
      refine own_go (B := s₁.setTop (mkF m 47 #[.val (.ref a), .val (.ref b), .val (.int p3), .val (.int p4), .val (.int p5), .val (.int p6), .val (.int p7), .val (.int p3)] [(.int p3)])) (fun tgt cont => ?_) ?_
      · refine XS.icmpYes X0.here hx rfl (pc0 := 27) (pc' := 45) rfl (hb hby d13_27) rfl (XT.ii_ne_t hc12) (by decide) (by decide) ?_
        refine XS.iload X0.here hx rfl (hb hby d13_45) rfl ?_
        exact cont
      refine own_end X0 (v := some (.int p3)) (fun h => by rw [Bd.returns] at h; cases h) hlk ?_ (by decide) (by decide) (fun fs hl => retI X0 hx Bd.returns (hb hby d13_47) hl)
      rw [e0]
      exact ⟨(by unfold own_inc_r; first | (simp only [if_neg hc1, if_neg hc12]; done) | (simp only [if_neg hc1, if_neg hc12]; exact rfl) | exact rfl), N0, (Keep.refl h0 [a, b]), (by unfold own_inc_ns; first | (simp only [if_neg hc1, if_neg hc12]; done) | (simp only [if_neg hc1, if_neg hc12]; exact A_a) | exact A_a), (by unfold own_inc_ms; first | (simp only [if_neg hc1, if_neg hc12]; done) | (simp only [if_neg hc1, if_neg hc12]; exact A_b) | exact A_b)⟩
def own_nt (es : List Int32) : List Nat := es.map Int32.toNatClampNeg
/-- ds holds the degrees that the ends es make over N vertices -/
def own_DG (es ds : List Int32) (N : Nat) : Prop := ds.length = N ∧ (∀ e ∈ es, ¬ e < 0 ∧ e.toNatClampNeg < N) ∧ ∀ v, v < N → ds.getD v 0 = Int32.ofNat ((own_nt es).count v)
theorem own_getSet (l : List Int32) (i j : Nat) (x : Int32) (h : i < l.length) : (l.set i x).getD j 0 = if i = j then x else l.getD j 0 := by
  rw [List.getD_eq_getElem?_getD, List.getD_eq_getElem?_getD, List.getElem?_set]
  by_cases e : i = j
  · subst e; rw [if_pos rfl, if_pos rfl, if_pos h]; rfl
  · rw [if_neg e, if_neg e]
theorem own_getRep (n j : Nat) : (List.replicate n (0 : Int32)).getD j 0 = 0 := by
  rw [List.getD_eq_getElem?_getD, List.getElem?_replicate]
  by_cases h : j < n
  · rw [if_pos h]; rfl
  · rw [if_neg h]; rfl
theorem own_DG0 (N : Nat) : own_DG [] (List.replicate N 0) N := ⟨List.length_replicate, (fun _ h => by cases h), fun v _ => own_getRep N v⟩
theorem own_DG1 {es ds : List Int32} {N : Nat} {p : Int32} (h : own_DG es ds N) (hp : ¬ p < 0) (hq : p.toNatClampNeg < N) : own_DG (es ++ [p]) (ds.set p.toNatClampNeg (ds.getD p.toNatClampNeg 0 + (1 : Int32))) N := by
  obtain ⟨h1, h2, h3⟩ := h
  refine ⟨by rw [List.length_set]; exact h1, ?_, ?_⟩
  · intro e he
    rcases List.mem_append.mp he with h | h
    · exact h2 e h
    · rw [List.mem_singleton.mp h]; exact ⟨hp, hq⟩
  · intro v hv
    have e1 : own_nt (es ++ [p]) = own_nt es ++ [p.toNatClampNeg] := by unfold own_nt; rw [List.map_append]; rfl
    rw [own_getSet _ _ _ _ (by rw [h1]; exact hq), e1, List.count_append, List.count_singleton]
    by_cases e : p.toNatClampNeg = v
    · subst e; rw [if_pos rfl, h3 _ hv, own_one]; simp
    · rw [if_neg e, h3 _ hv]; simp [e]
/-- the ends below v: where v's slots begin -/
def own_pre (es : List Int32) (v : Nat) : Nat := (own_nt es).countP (fun x => decide (x < v))
theorem own_pre_step (es : List Int32) (v : Nat) : own_pre es (v + 1) = own_pre es v + (own_nt es).count v := by
  unfold own_pre
  generalize own_nt es = L
  induction L with
  | nil => rfl
  | cons a L ih =>
    rw [List.countP_cons, List.countP_cons, List.count_cons, ih]
    simp only [decide_eq_true_eq, beq_iff_eq]
    by_cases h1 : a < v
    · have h2 : a < v + 1 := by omega
      have h3 : ¬ a = v := by omega
      simp [h1, h2, h3]; omega
    · by_cases h3 : a = v
      · subst h3; simp; omega
      · have h2 : ¬ a < v + 1 := by omega
        simp [h1, h2, h3]
theorem own_pre_le (es : List Int32) (v : Nat) : own_pre es v ≤ es.length := by
  unfold own_pre own_nt
  have := List.countP_le_length (p := fun x => decide (x < v)) (l := es.map Int32.toNatClampNeg)
  rw [List.length_map] at this; exact this
theorem own_pre_mono (es : List Int32) {v w : Nat} (h : v ≤ w) : own_pre es v ≤ own_pre es w := by
  induction w with
  | zero => have : v = 0 := by omega
            rw [this]; exact Nat.le_refl _
  | succ w ih =>
    rcases Nat.lt_or_ge v (w + 1) with q | q
    · rw [own_pre_step]; have := ih (by omega); omega
    · have : v = w + 1 := by omega
      rw [this]; exact Nat.le_refl _
theorem own_fsL_at {es ds : List Int32} {N : Nat} (h : own_DG es ds N) : ∀ v, v ≤ N → ∀ u, (own_fsL ds v (List.replicate (N + 1) 0)).getD u 0 = if u ≤ v then Int32.ofNat (own_pre es u) else 0 := by
  intro v
  induction v with
  | zero =>
    intro _ u
    rw [own_fsL, own_getRep]
    by_cases e : u ≤ 0
    · have : u = 0 := by omega
      subst this; rw [if_pos e]
      have : own_pre es 0 = 0 := by unfold own_pre; simp
      rw [this]; rfl
    · rw [if_neg e]
  | succ v ih =>
    intro hv u
    rw [own_fsL, own_getSet _ _ _ _ (by rw [own_fsL_len2]; omega), ih (by omega), ih (by omega), if_pos (Nat.le_refl v), h.2.2 v (by omega), ← Int32.ofNat_add, ← own_pre_step]
    by_cases e : v + 1 = u
    · subst e; rw [if_pos rfl, if_pos (Nat.le_refl _)]
    · rw [if_neg e]
      by_cases q : u ≤ v
      · rw [if_pos q, if_pos (by omega)]
      · rw [if_neg q, if_neg (by omega)]
/-- the end i's slot -/
def own_slot (es : List Int32) (i : Nat) : Nat := own_pre es (es.getD i 0).toNatClampNeg + ((own_nt es).take i).count (es.getD i 0).toNatClampNeg
theorem own_nt_len (es : List Int32) : (own_nt es).length = es.length := List.length_map ..
theorem own_nt_get (es : List Int32) {i : Nat} (h : i < es.length) : (own_nt es)[i]? = some (es.getD i 0).toNatClampNeg := by
  unfold own_nt
  rw [List.getElem?_map, List.getD_eq_getElem?_getD, List.getElem?_eq_getElem h]; rfl
theorem own_takeS (es : List Int32) {i : Nat} (h : i < es.length) : (own_nt es).take (i + 1) = (own_nt es).take i ++ [(es.getD i 0).toNatClampNeg] := by
  rw [List.take_add_one, own_nt_get es h]; rfl
theorem own_cnt_take (L : List Nat) (v i : Nat) : (L.take i).count v ≤ L.count v := List.Sublist.count_le _ (List.take_sublist i L)
theorem own_cnt_take2 (L : List Nat) (v : Nat) {i j : Nat} (h : i ≤ j) : (L.take i).count v ≤ (L.take j).count v := by
  have e : L.take i = (L.take j).take i := by rw [List.take_take, Nat.min_eq_left h]
  rw [e]; exact own_cnt_take _ _ _
theorem own_slot_lt (es : List Int32) {i : Nat} (h : i < es.length) : own_slot es i < own_pre es ((es.getD i 0).toNatClampNeg + 1) := by
  unfold own_slot
  rw [own_pre_step]
  have a := own_cnt_take (own_nt es) (es.getD i 0).toNatClampNeg (i + 1)
  rw [own_takeS es h, List.count_append, List.count_singleton_self] at a
  omega
theorem own_slot_len (es : List Int32) {i : Nat} (h : i < es.length) : own_slot es i < es.length := Nat.lt_of_lt_of_le (own_slot_lt es h) (own_pre_le _ _)
theorem own_slot_inj (es : List Int32) {i j : Nat} (hi : i < es.length) (hj : j < es.length) (e : own_slot es i = own_slot es j) : i = j := by
  have main : ∀ {i j : Nat}, i < es.length → j < es.length → own_slot es i = own_slot es j → ¬ (es.getD i 0).toNatClampNeg < (es.getD j 0).toNatClampNeg := by
    intro i j hi hj e q
    have a := own_slot_lt es hi
    have b := own_pre_mono es (v := (es.getD i 0).toNatClampNeg + 1) (w := (es.getD j 0).toNatClampNeg) (by omega)
    have c : own_pre es (es.getD j 0).toNatClampNeg ≤ own_slot es j := by unfold own_slot; omega
    omega
  have main2 : ∀ {i j : Nat}, i < es.length → own_slot es i = own_slot es j → (es.getD i 0).toNatClampNeg = (es.getD j 0).toNatClampNeg → ¬ i < j := by
    intro i j hi e q h
    unfold own_slot at e
    have a := own_cnt_take2 (own_nt es) (es.getD i 0).toNatClampNeg (i := i + 1) (j := j) h
    rw [own_takeS es hi, List.count_append, List.count_singleton_self] at a
    rw [q] at a e
    omega
  have n1 := main hi hj e
  have n2 := main hj hi e.symm
  have m1 := main2 hi e (by omega)
  have m2 := main2 hj e.symm (by omega)
  omega
/-- the next free slots when i ends are laid -/
theorem own_ln_at {es n0 : List Int32} {N : Nat} (hr : ∀ e ∈ es, ¬ e < 0 ∧ e.toNatClampNeg < N) (hl : n0.length = N) (h0 : ∀ v, v < N → n0.getD v 0 = Int32.ofNat (own_pre es v)) : ∀ i, i ≤ es.length → ∀ v, v < N → (own_ln es n0 i).getD v 0 = Int32.ofNat (own_pre es v + ((own_nt es).take i).count v) := by
  intro i
  induction i with
  | zero => intro _ v hv; rw [own_ln, h0 v hv]; simp
  | succ i ih =>
    intro hi v hv
    have he : i < es.length := by omega
    have hm : es.getD i 0 ∈ es := by
      rw [List.getD_eq_getElem?_getD, List.getElem?_eq_getElem he]; exact List.getElem_mem he
    have hb := (hr _ hm).2
    rw [own_ln, own_getSet _ _ _ _ (by rw [own_ln_len, hl]; exact hb), own_takeS es he, List.count_append, List.count_singleton, ih (by omega) v hv]
    by_cases e : (es.getD i 0).toNatClampNeg = v
    · subst e; rw [if_pos rfl, ih (by omega) _ hb, own_one, beq_self_eq_true, if_pos rfl, Nat.add_assoc]
    · rw [if_neg e, beq_false_of_ne e, if_neg Bool.false_ne_true, Nat.add_zero]
theorem own_mem {es : List Int32} {i : Nat} (he : i < es.length) : es.getD i 0 ∈ es := by
  rw [List.getD_eq_getElem?_getD, List.getElem?_eq_getElem he]; exact List.getElem_mem he
theorem own_ln_slot {es n0 : List Int32} {N : Nat} (hr : ∀ e ∈ es, ¬ e < 0 ∧ e.toNatClampNeg < N) (hl : n0.length = N) (h0 : ∀ v, v < N → n0.getD v 0 = Int32.ofNat (own_pre es v)) {i : Nat} (hi : i < es.length) : (own_ln es n0 i).getD (es.getD i 0).toNatClampNeg 0 = Int32.ofNat (own_slot es i) :=
  own_ln_at hr hl h0 i (Nat.le_of_lt hi) _ (hr _ (own_mem hi)).2
theorem own_xor1 : ∀ i, i < 32 → Int32.ofNat i ^^^ (1 : Int32) = Int32.ofNat (i ^^^ 1) := by decide
theorem own_xorN : ∀ k, k < 17 → ∀ i, i < 2 * k → i ^^^ 1 < 2 * k := by decide
theorem own_cofN {p : Int32} {fs : List Int32} (hn : ¬ p < 0) (hl : fs.length = p.toNatClampNeg + 1) (h8 : p.toNatClampNeg ≤ 32) : own_cof_l p fs = fs.take p.toNatClampNeg := by
  have q : own_min (Int32.ofNat fs.length) p = p := by
    unfold own_min
    rw [if_pos]
    have e0 : (0 : Int32).toInt = 0 := rfl
    rw [Int32.lt_iff_toInt_lt, e0] at hn
    rw [Int32.lt_iff_toInt_lt, own_toI (by omega), hl, Int32.toNatClampNeg]; omega
  unfold own_cof_l
  rw [q, List.drop_of_length_le (by rw [List.length_replicate]; exact Nat.le_refl _), List.append_nil]
/-- n0: the slots' beginnings -/
theorem own_n0_at {es ds : List Int32} {p : Int32} (hn : ¬ p < 0) (h8 : p.toNatClampNeg ≤ 32) (h : own_DG es ds p.toNatClampNeg) :
    (own_cof_l p (own_fsL ds p.toNatClampNeg (List.replicate (p.toNatClampNeg + 1) 0))).length = p.toNatClampNeg ∧ ∀ v, v < p.toNatClampNeg → (own_cof_l p (own_fsL ds p.toNatClampNeg (List.replicate (p.toNatClampNeg + 1) 0))).getD v 0 = Int32.ofNat (own_pre es v) := by
  have q := own_fsL_at h p.toNatClampNeg (Nat.le_refl _)
  have ll := own_fsL_len2 ds p.toNatClampNeg (p.toNatClampNeg + 1)
  rw [own_cofN hn ll h8]
  refine ⟨by rw [List.length_take, ll]; omega, fun v hv => ?_⟩
  have e := q v
  rw [if_pos (Nat.le_of_lt hv)] at e
  rw [← e, List.getD_eq_getElem?_getD, List.getD_eq_getElem?_getD, List.getElem?_take_of_lt hv]
theorem own_GBmk {es ds : List Int32} {p : Int32} {k : Nat} (hn : ¬ p < 0) (h8 : p.toNatClampNeg ≤ 32) (h : own_DG es ds p.toNatClampNeg) (hl : es.length = 2 * k) (hk : k ≤ 16) : own_GB es (own_cof_l p (own_fsL ds p.toNatClampNeg (List.replicate (p.toNatClampNeg + 1) 0))) := by
  obtain ⟨a, b⟩ := own_n0_at hn h8 h
  intro i hi
  have c := own_ln_slot h.2.1 a b hi
  have d := own_slot_len es hi
  have hx := own_xorN k (by omega) i (by omega)
  rw [c, own_xor1 i (by omega), a]
  refine ⟨h.2.1 _ (own_mem hi), own_inN d (by omega), ?_⟩
  rw [hl]; exact own_inN hx (by omega)
/-- the sum of the hits -/
theorem own_cntF {w : Int32} (hw : ¬ w < 0) : ∀ (es : List Int32) (a : Nat), (∀ e ∈ es, ¬ e < 0) → es.foldl (fun s e => s + if e = w then (1 : Int32) else (0 : Int32)) (Int32.ofNat a) = Int32.ofNat (a + (own_nt es).count w.toNatClampNeg) := by
  intro es
  induction es with
  | nil => intro a _; rfl
  | cons x es ih =>
    intro a h
    have hx := h x (List.mem_cons_self ..)
    have hs := fun e he => h e (List.mem_cons_of_mem _ he)
    have e1 : own_nt (x :: es) = x.toNatClampNeg :: own_nt es := rfl
    rw [List.foldl_cons, e1, List.count_cons]
    by_cases e : x = w
    · subst e; rw [if_pos rfl, own_one, ih _ hs, beq_self_eq_true, if_pos rfl]; exact congrArg Int32.ofNat (by omega)
    · have e2 : ¬ x.toNatClampNeg = w.toNatClampNeg := by
        intro q; apply e
        have e0 : (0 : Int32).toInt = 0 := rfl
        rw [Int32.lt_iff_toInt_lt, e0] at hw hx
        rw [Int32.toNatClampNeg, Int32.toNatClampNeg] at q
        exact Int32.toInt_inj.mp (by omega)
      rw [if_neg e, Int32.add_zero, ih _ hs, beq_false_of_ne e2, if_neg Bool.false_ne_true, Nat.add_zero]

/-- what the two slot lists hold when i ends are laid -/
theorem own_l1_at {es n0 z : List Int32} {N : Nat} (hr : ∀ e ∈ es, ¬ e < 0 ∧ e.toNatClampNeg < N) (hl : n0.length = N) (h0 : ∀ v, v < N → n0.getD v 0 = Int32.ofNat (own_pre es v)) (hz : z.length = es.length) (h32 : es.length ≤ 32) : ∀ i, i ≤ es.length → ∀ j, j < i → (own_l1 es n0 z i).getD (own_slot es j) 0 = es.getD (j ^^^ 1) 0 ∧ (own_l2 es n0 z i).getD (own_slot es j) 0 = Int32.ofNat j / (2 : Int32) := by
  intro i
  induction i with
  | zero => intro _ j hj; omega
  | succ i ih =>
    intro hi j hj
    have hi' : i < es.length := hi
    have s := own_slot_len es hi'
    have x1 : i ^^^ 1 < 2147483648 := by
      have := own_xorN 16 (by decide) i (by omega)
      omega
    rw [own_l1, own_l2, own_ln_slot hr hl h0 hi', own_toN (by omega), own_xor1 i (by omega), own_toN x1, own_getSet _ _ _ _ (by rw [own_l1_len, hz]; exact s), own_getSet _ _ _ _ (by rw [own_l2_len, hz]; exact s)]
    by_cases e : own_slot es i = own_slot es j
    · have q := own_slot_inj es hi' (by omega) e
      subst q
      rw [if_pos rfl, if_pos rfl]; exact ⟨rfl, rfl⟩
    · rw [if_neg e, if_neg e]
      have n : j ≠ i := fun q => e (by rw [q])
      exact ih (by omega) j (by omega)
theorem own_occ (v : Nat) : ∀ (L : List Nat) (t : Nat), t < L.count v → ∃ j, L[j]? = some v ∧ (L.take j).count v = t := by
  intro L
  induction L with
  | nil => intro t h; exact absurd h (Nat.not_lt_zero _)
  | cons a L ih =>
    intro t h
    rw [List.count_cons] at h
    by_cases e : a = v
    · subst e
      rcases Nat.eq_zero_or_pos t with q | q
      · exact ⟨0, rfl, by rw [q]; rfl⟩
      · rw [beq_self_eq_true, if_pos rfl] at h
        obtain ⟨j, h1, h2⟩ := ih (t - 1) (by omega)
        exact ⟨j + 1, h1, by rw [List.take_succ_cons, List.count_cons, h2, beq_self_eq_true, if_pos rfl]; omega⟩
    · rw [beq_false_of_ne e, if_neg Bool.false_ne_true] at h
      obtain ⟨j, h1, h2⟩ := ih t h
      exact ⟨j + 1, h1, by rw [List.take_succ_cons, List.count_cons, h2, beq_false_of_ne e, if_neg Bool.false_ne_true]; rfl⟩
/-- the law's own two lists: the t-th end at v has f's and g's answers at place t -/
def own_NB (es : List Int32) (f g : Nat → Int32) (v c : Int32) (ns ms : List Int32) : Prop := ns.length = 6 ∧ ms.length = 6 ∧ c = Int32.ofNat ((own_nt es).count v.toNatClampNeg) ∧ ∀ j, (own_nt es)[j]? = some v.toNatClampNeg → ns.getD (((own_nt es).take j).count v.toNatClampNeg) 0 = f j ∧ ms.getD (((own_nt es).take j).count v.toNatClampNeg) 0 = g j
theorem own_inj {a b : Int32} (ha : ¬ a < 0) (hb : ¬ b < 0) (e : a.toNatClampNeg = b.toNatClampNeg) : a = b := by
  have e0 : (0 : Int32).toInt = 0 := rfl
  rw [Int32.lt_iff_toInt_lt, e0] at ha hb
  rw [Int32.toNatClampNeg, Int32.toNatClampNeg] at e
  exact Int32.toInt_inj.mp (by omega)
theorem own_NB0 (f g : Nat → Int32) (v : Int32) {ns ms : List Int32} (h1 : ns.length = 6) (h2 : ms.length = 6) : own_NB [] f g v 0 ns ms := ⟨h1, h2, rfl, fun j h => by cases h⟩
theorem own_cntlt (L : List Nat) {v j : Nat} (h : L[j]? = some v) : (L.take j).count v < L.count v := by
  have a := own_cnt_take L v (j + 1)
  rw [List.take_add_one, h, List.count_append] at a
  have b : List.count v (some v).toList = 1 := List.count_singleton_self ..
  omega
theorem own_NBs {es : List Int32} {f g : Nat → Int32} {v c p x y : Int32} {ns ms : List Int32} (h : own_NB es f g v c ns ms) (hp : ¬ p < 0) (hv : ¬ v < 0) (hl : es.length < 6) (hx : f es.length = x) (hy : g es.length = y) :
    (p = v → own_NB (es ++ [p]) f g v (c + (1 : Int32)) (ns.set c.toNatClampNeg x) (ms.set c.toNatClampNeg y)) ∧ (¬ p = v → own_NB (es ++ [p]) f g v c ns ms) := by
  obtain ⟨h1, h2, h3, h4⟩ := h
  have e1 : own_nt (es ++ [p]) = own_nt es ++ [p.toNatClampNeg] := by unfold own_nt; rw [List.map_append]; rfl
  have l1 := own_nt_len es
  have cl : (own_nt es).count v.toNatClampNeg ≤ 5 := by
    have := List.count_le_length (a := v.toNatClampNeg) (l := own_nt es)
    omega
  have c1 : c.toNatClampNeg = (own_nt es).count v.toNatClampNeg := by rw [h3, own_toN (by omega)]
  constructor
  · intro e
    subst e
    refine ⟨by rw [List.length_set]; exact h1, by rw [List.length_set]; exact h2, ?_, ?_⟩
    · rw [e1, List.count_append, List.count_singleton_self, h3, own_one]
    · intro j hj
      rw [e1] at hj ⊢
      rw [c1, own_getSet _ _ _ _ (by omega), own_getSet _ _ _ _ (by omega)]
      rcases Nat.lt_or_ge j es.length with q | q
      · rw [List.getElem?_append_left (by omega)] at hj
        rw [List.take_append_of_le_length (by omega)]
        have lt := own_cntlt (own_nt es) hj
        rw [if_neg (by omega), if_neg (by omega)]
        exact h4 j hj
      · rw [List.getElem?_append_right (by omega)] at hj
        have q2 : j = es.length := by
          rcases Nat.eq_or_lt_of_le q with q | q
          · exact q.symm
          · have : j - (own_nt es).length = (j - (own_nt es).length - 1) + 1 := by omega
            rw [this] at hj; cases hj
        have q3 : j = (own_nt es).length := by omega
        rw [q3, List.take_left, if_pos rfl, if_pos rfl, l1]
        exact ⟨hx.symm, hy.symm⟩
  · intro e
    have e2 : ¬ p.toNatClampNeg = v.toNatClampNeg := fun q => e (own_inj hp hv q)
    refine ⟨h1, h2, ?_, ?_⟩
    · rw [e1, List.count_append, List.count_singleton, beq_false_of_ne e2, if_neg Bool.false_ne_true]; exact h3
    · intro j hj
      rw [e1] at hj ⊢
      rcases Nat.lt_or_ge j es.length with q | q
      · rw [List.getElem?_append_left (by omega)] at hj
        rw [List.take_append_of_le_length (by omega)]
        exact h4 j hj
      · rw [List.getElem?_append_right (by omega)] at hj
        exfalso
        rcases Nat.eq_or_lt_of_le q with q | q
        · have : j - (own_nt es).length = 0 := by omega
          rw [this] at hj; exact e2 (Option.some.inj hj)
        · have : j - (own_nt es).length = (j - (own_nt es).length - 1) + 1 := by omega
          rw [this] at hj; cases hj

theorem own_n3a {n : Int32} (h : 1 ≤ n.toInt ∧ n.toInt ≤ 8) : ¬ n < 0 := by
  have e0 : (0 : Int32).toInt = 0 := rfl
  rw [Int32.lt_iff_toInt_lt, e0]; omega
theorem own_n3b {n : Int32} (h : 1 ≤ n.toInt ∧ n.toInt ≤ 8) : n.toNatClampNeg ≤ 8 := by rw [Int32.toNatClampNeg]; omega
theorem own_n3c {n : Int32} (h : 1 ≤ n.toInt ∧ n.toInt ≤ 8) : n ≠ 0 := by
  intro e
  have e0 : (0 : Int32).toInt = 0 := rfl
  rw [e, e0] at h; omega
/-- a number below n, from its remainder -/
def own_be (r n : Int32) : Prop := ¬ r < 0 ∧ r < n ∧ r.toNatClampNeg < n.toNatClampNeg
theorem own_beR {y n : Int32} (h : 1 ≤ n.toInt ∧ n.toInt ≤ 8) (hy : 0 ≤ y.toInt) : own_be (y % n) n := by
  have q := (c_iremV y n).1 hy (by omega)
  have e0 : (0 : Int32).toInt = 0 := rfl
  generalize y % n = r at *
  unfold own_be
  rw [Int32.lt_iff_toInt_lt, Int32.lt_iff_toInt_lt, e0, Int32.toNatClampNeg, Int32.toNatClampNeg]; omega
theorem own_dB {es ds : List Int32} {n r : Int32} (D : own_DG es ds n.toNatClampNeg) (b : own_be r n) : ¬ r < 0 ∧ r.toNatClampNeg < ds.length := ⟨b.1, by rw [D.1]; exact b.2.2⟩
theorem own_DGa {es ds ds' : List Int32} {n p q : Int32} (D : own_DG es ds n.toNatClampNeg) (b : own_be p n) (c : own_be q n) (h : own_ae_ds p q ds = ds') : own_DG (es ++ [p] ++ [q]) ds' n.toNatClampNeg := by
  subst h; exact own_DG1 (own_DG1 D b.1 b.2.2) c.1 c.2.2
theorem own_hg0 {es : List Int32} (h : es.length = 16) : ¬ ((2 : Int32) * (0 : Int32)) = (Int32.ofNat es.length) := by rw [h]; decide
theorem own_c1_0 {es : List Int32} (h : es.length = 16) : ¬ ((2 : Int32) * (0 : Int32)) < 0 ∧ ((2 : Int32) * (0 : Int32)).toNatClampNeg < es.length := by rw [h]; decide
theorem own_c2_0 {es : List Int32} (h : es.length = 16) : ¬ (((2 : Int32) * (0 : Int32)) + (1 : Int32)) < 0 ∧ (((2 : Int32) * (0 : Int32)) + (1 : Int32)).toNatClampNeg < es.length := by rw [h]; decide
theorem own_es0 (x0 x1 x2 x3 x4 x5 x6 x7 x8 x9 x10 x11 x12 x13 x14 x15 p q : Int32) : own_ae_es p q (0 : Int32) [x0, x1, x2, x3, x4, x5, x6, x7, x8, x9, x10, x11, x12, x13, x14, x15] = [p, q, x2, x3, x4, x5, x6, x7, x8, x9, x10, x11, x12, x13, x14, x15] := rfl
theorem own_ec0 : own_ae_edgeCount (0 : Int32) = (1 : Int32) := by decide
theorem own_hg1 {es : List Int32} (h : es.length = 16) : ¬ ((2 : Int32) * (1 : Int32)) = (Int32.ofNat es.length) := by rw [h]; decide
theorem own_c1_1 {es : List Int32} (h : es.length = 16) : ¬ ((2 : Int32) * (1 : Int32)) < 0 ∧ ((2 : Int32) * (1 : Int32)).toNatClampNeg < es.length := by rw [h]; decide
theorem own_c2_1 {es : List Int32} (h : es.length = 16) : ¬ (((2 : Int32) * (1 : Int32)) + (1 : Int32)) < 0 ∧ (((2 : Int32) * (1 : Int32)) + (1 : Int32)).toNatClampNeg < es.length := by rw [h]; decide
theorem own_es1 (x0 x1 x2 x3 x4 x5 x6 x7 x8 x9 x10 x11 x12 x13 x14 x15 p q : Int32) : own_ae_es p q (1 : Int32) [x0, x1, x2, x3, x4, x5, x6, x7, x8, x9, x10, x11, x12, x13, x14, x15] = [x0, x1, p, q, x4, x5, x6, x7, x8, x9, x10, x11, x12, x13, x14, x15] := rfl
theorem own_ec1 : own_ae_edgeCount (1 : Int32) = (2 : Int32) := by decide
theorem own_hg2 {es : List Int32} (h : es.length = 16) : ¬ ((2 : Int32) * (2 : Int32)) = (Int32.ofNat es.length) := by rw [h]; decide
theorem own_c1_2 {es : List Int32} (h : es.length = 16) : ¬ ((2 : Int32) * (2 : Int32)) < 0 ∧ ((2 : Int32) * (2 : Int32)).toNatClampNeg < es.length := by rw [h]; decide
theorem own_c2_2 {es : List Int32} (h : es.length = 16) : ¬ (((2 : Int32) * (2 : Int32)) + (1 : Int32)) < 0 ∧ (((2 : Int32) * (2 : Int32)) + (1 : Int32)).toNatClampNeg < es.length := by rw [h]; decide
theorem own_es2 (x0 x1 x2 x3 x4 x5 x6 x7 x8 x9 x10 x11 x12 x13 x14 x15 p q : Int32) : own_ae_es p q (2 : Int32) [x0, x1, x2, x3, x4, x5, x6, x7, x8, x9, x10, x11, x12, x13, x14, x15] = [x0, x1, x2, x3, p, q, x6, x7, x8, x9, x10, x11, x12, x13, x14, x15] := rfl
theorem own_ec2 : own_ae_edgeCount (2 : Int32) = (3 : Int32) := by decide
theorem own_n5 (p : Int32) : 0 ≤ ((p &&& (7 : Int32)) % (5 : Int32)).toInt ∧ ((p &&& (7 : Int32)) % (5 : Int32)).toInt ≤ 8 := by
  have q := c_mask p 7 3 (by decide) (by decide)
  have q2 : 0 ≤ (p &&& (7 : Int32)).toInt := by rw [q]; exact Int.emod_nonneg _ (by decide)
  have t := (c_irem (p &&& (7 : Int32)) 5 5 rfl).1 q2
  rw [t]; omega
theorem own_n5a {n : Int32} (h : 0 ≤ n.toInt ∧ n.toInt ≤ 8) : ¬ n < 0 := by
  have e0 : (0 : Int32).toInt = 0 := rfl
  rw [Int32.lt_iff_toInt_lt, e0]; omega
theorem own_n5b {n : Int32} (h : 0 ≤ n.toInt ∧ n.toInt ≤ 8) : n.toNatClampNeg ≤ 8 := by rw [Int32.toNatClampNeg]; omega
theorem own_n5p {n : Int32} (h : 0 ≤ n.toInt ∧ n.toInt ≤ 8) (hz : ¬ n = 0) : 1 ≤ n.toInt ∧ n.toInt ≤ 8 := by
  have q : n.toInt ≠ 0 := fun e => hz (Int32.toInt_inj.mp e)
  omega
theorem own_zf {n : Int32} (h : n = 0) : ¬ 0 < n := by rw [h]; decide
theorem own_zt {n : Int32} (h : 1 ≤ n.toInt ∧ n.toInt ≤ 8) : 0 < n := by
  have e0 : (0 : Int32).toInt = 0 := rfl
  rw [Int32.lt_iff_toInt_lt, e0]; omega
theorem own_k4 (y : Int32) : (y &&& (3 : Int32)) = 0 ∨ (y &&& (3 : Int32)) = 1 ∨ (y &&& (3 : Int32)) = 2 ∨ (y &&& (3 : Int32)) = 3 := by
  have q := c_mask y 3 2 (by decide) (by decide)
  generalize y &&& (3 : Int32) = z at *
  have c : z.toInt = 0 ∨ z.toInt = 1 ∨ z.toInt = 2 ∨ z.toInt = 3 := by omega
  rcases c with c | c | c | c
  · exact Or.inl (Int32.toInt_inj.mp c)
  · exact Or.inr (Or.inl (Int32.toInt_inj.mp c))
  · exact Or.inr (Or.inr (Or.inl (Int32.toInt_inj.mp c)))
  · exact Or.inr (Or.inr (Or.inr (Int32.toInt_inj.mp c)))
theorem own_255 (y : Int32) : 0 ≤ (y &&& (255 : Int32)).toInt := by
  have q := c_mask y 255 8 (by decide) (by decide)
  rw [q]; exact Int.emod_nonneg _ (by decide)
theorem own_b255 {y n : Int32} (h : 1 ≤ n.toInt ∧ n.toInt ≤ 8) : own_be ((y &&& (255 : Int32)) % n) n := own_beR h (own_255 y)
theorem own_ek1 (y : Int32) : ((y &&& (255 : Int32)) % (1 : Int32)) = 0 := by
  have t := (c_irem (y &&& (255 : Int32)) 1 1 rfl).1 (own_255 y)
  exact Int32.toInt_inj.mp (by rw [t]; show _ = (0 : Int); omega)
theorem own_ek2 (y : Int32) : ((y &&& (255 : Int32)) % (2 : Int32)) = 0 ∨ ((y &&& (255 : Int32)) % (2 : Int32)) = 1 := by
  have t := (c_irem (y &&& (255 : Int32)) 2 2 rfl).1 (own_255 y)
  generalize (y &&& (255 : Int32)) % (2 : Int32) = z at *
  have c : z.toInt = 0 ∨ z.toInt = 1 := by omega
  rcases c with c | c
  · exact Or.inl (Int32.toInt_inj.mp c)
  · exact Or.inr (Int32.toInt_inj.mp c)
theorem own_ek3 (y : Int32) : ((y &&& (255 : Int32)) % (3 : Int32)) = 0 ∨ ((y &&& (255 : Int32)) % (3 : Int32)) = 1 ∨ ((y &&& (255 : Int32)) % (3 : Int32)) = 2 := by
  have t := (c_irem (y &&& (255 : Int32)) 3 3 rfl).1 (own_255 y)
  generalize (y &&& (255 : Int32)) % (3 : Int32) = z at *
  have c : z.toInt = 0 ∨ z.toInt = 1 ∨ z.toInt = 2 := by omega
  rcases c with c | c | c
  · exact Or.inl (Int32.toInt_inj.mp c)
  · exact Or.inr (Or.inl (Int32.toInt_inj.mp c))
  · exact Or.inr (Or.inr (Int32.toInt_inj.mp c))
theorem own_hd_0 {es : List Int32} (h : es.length = 16) : ¬ ((2 : Int32) * (0 : Int32)) = (Int32.ofNat es.length) := by rw [h]; decide
theorem own_LE_0  : own_cof_l ((2 : Int32) * (0 : Int32)) [(0 : Int32), (0 : Int32), (0 : Int32), (0 : Int32), (0 : Int32), (0 : Int32), (0 : Int32), (0 : Int32), (0 : Int32), (0 : Int32), (0 : Int32), (0 : Int32), (0 : Int32), (0 : Int32), (0 : Int32), (0 : Int32)] = [] := rfl
theorem own_hle_0  : (own_cof_l ((2 : Int32) * (0 : Int32)) [(0 : Int32), (0 : Int32), (0 : Int32), (0 : Int32), (0 : Int32), (0 : Int32), (0 : Int32), (0 : Int32), (0 : Int32), (0 : Int32), (0 : Int32), (0 : Int32), (0 : Int32), (0 : Int32), (0 : Int32), (0 : Int32)]).length ≤ 32 := by
  rw [own_LE_0]; exact Nat.le_of_ble_eq_true rfl
theorem own_gb_0 { n : Int32} {ds : List Int32} (h : 0 ≤ n.toInt ∧ n.toInt ≤ 8) (D : own_DG [] ds n.toNatClampNeg) : own_GB (own_cof_l ((2 : Int32) * (0 : Int32)) [(0 : Int32), (0 : Int32), (0 : Int32), (0 : Int32), (0 : Int32), (0 : Int32), (0 : Int32), (0 : Int32), (0 : Int32), (0 : Int32), (0 : Int32), (0 : Int32), (0 : Int32), (0 : Int32), (0 : Int32), (0 : Int32)]) (own_cof_l n (own_fsL ds n.toNatClampNeg (List.replicate (n.toNatClampNeg + 1) 0))) := by
  rw [own_LE_0]; exact own_GBmk (k := 0) (own_n5a h) (Nat.le_trans (own_n5b h) (by decide)) D rfl (by decide)
theorem own_gec_0 {es : List Int32} (h : es.length = 0) : own_gec_r es = (0 : Int32) := by unfold own_gec_r; rw [h]; decide
theorem own_hd_1 {es : List Int32} (h : es.length = 16) : ¬ ((2 : Int32) * (1 : Int32)) = (Int32.ofNat es.length) := by rw [h]; decide
theorem own_LE_1 (x0 x1 : Int32) : own_cof_l ((2 : Int32) * (1 : Int32)) [x0, x1, (0 : Int32), (0 : Int32), (0 : Int32), (0 : Int32), (0 : Int32), (0 : Int32), (0 : Int32), (0 : Int32), (0 : Int32), (0 : Int32), (0 : Int32), (0 : Int32), (0 : Int32), (0 : Int32)] = [x0, x1] := rfl
theorem own_hle_1 (x0 x1 : Int32) : (own_cof_l ((2 : Int32) * (1 : Int32)) [x0, x1, (0 : Int32), (0 : Int32), (0 : Int32), (0 : Int32), (0 : Int32), (0 : Int32), (0 : Int32), (0 : Int32), (0 : Int32), (0 : Int32), (0 : Int32), (0 : Int32), (0 : Int32), (0 : Int32)]).length ≤ 32 := by
  rw [own_LE_1]; exact Nat.le_of_ble_eq_true rfl
theorem own_gb_1 {x0 x1 n : Int32} {ds : List Int32} (h : 0 ≤ n.toInt ∧ n.toInt ≤ 8) (D : own_DG [x0, x1] ds n.toNatClampNeg) : own_GB (own_cof_l ((2 : Int32) * (1 : Int32)) [x0, x1, (0 : Int32), (0 : Int32), (0 : Int32), (0 : Int32), (0 : Int32), (0 : Int32), (0 : Int32), (0 : Int32), (0 : Int32), (0 : Int32), (0 : Int32), (0 : Int32), (0 : Int32), (0 : Int32)]) (own_cof_l n (own_fsL ds n.toNatClampNeg (List.replicate (n.toNatClampNeg + 1) 0))) := by
  rw [own_LE_1]; exact own_GBmk (k := 1) (own_n5a h) (Nat.le_trans (own_n5b h) (by decide)) D rfl (by decide)
theorem own_gec_1 {es : List Int32} (h : es.length = 2) : own_gec_r es = (1 : Int32) := by unfold own_gec_r; rw [h]; decide
theorem own_q2_1_0 {es : List Int32} (h : es.length = 2) : (0 : Int32) < own_gec_r es := by rw [own_gec_1 h]; decide
theorem own_q3_1_0 {es : List Int32} (h : es.length = 2) : ¬ ((2 : Int32) * (own_cx (0 : Int32) (own_gec_r es))) < 0 ∧ ((2 : Int32) * (own_cx (0 : Int32) (own_gec_r es))).toNatClampNeg < es.length := by rw [own_gec_1 h, h]; decide
theorem own_q4_1_0 {es : List Int32} (h : es.length = 2) : ¬ (((2 : Int32) * (own_cx (0 : Int32) (own_gec_r es))) + (1 : Int32)) < 0 ∧ (((2 : Int32) * (own_cx (0 : Int32) (own_gec_r es))) + (1 : Int32)).toNatClampNeg < es.length := by rw [own_gec_1 h, h]; decide
theorem own_f_1_0 (x0 x1 : Int32) : own_gfir_r (0 : Int32) [x0, x1] = x0 := rfl
theorem own_s_1_0 (x0 x1 : Int32) : own_gsec_r (0 : Int32) [x0, x1] = x1 := rfl
theorem own_hd_2 {es : List Int32} (h : es.length = 16) : ¬ ((2 : Int32) * (2 : Int32)) = (Int32.ofNat es.length) := by rw [h]; decide
theorem own_LE_2 (x0 x1 x2 x3 : Int32) : own_cof_l ((2 : Int32) * (2 : Int32)) [x0, x1, x2, x3, (0 : Int32), (0 : Int32), (0 : Int32), (0 : Int32), (0 : Int32), (0 : Int32), (0 : Int32), (0 : Int32), (0 : Int32), (0 : Int32), (0 : Int32), (0 : Int32)] = [x0, x1, x2, x3] := rfl
theorem own_hle_2 (x0 x1 x2 x3 : Int32) : (own_cof_l ((2 : Int32) * (2 : Int32)) [x0, x1, x2, x3, (0 : Int32), (0 : Int32), (0 : Int32), (0 : Int32), (0 : Int32), (0 : Int32), (0 : Int32), (0 : Int32), (0 : Int32), (0 : Int32), (0 : Int32), (0 : Int32)]).length ≤ 32 := by
  rw [own_LE_2]; exact Nat.le_of_ble_eq_true rfl
theorem own_gb_2 {x0 x1 x2 x3 n : Int32} {ds : List Int32} (h : 0 ≤ n.toInt ∧ n.toInt ≤ 8) (D : own_DG [x0, x1, x2, x3] ds n.toNatClampNeg) : own_GB (own_cof_l ((2 : Int32) * (2 : Int32)) [x0, x1, x2, x3, (0 : Int32), (0 : Int32), (0 : Int32), (0 : Int32), (0 : Int32), (0 : Int32), (0 : Int32), (0 : Int32), (0 : Int32), (0 : Int32), (0 : Int32), (0 : Int32)]) (own_cof_l n (own_fsL ds n.toNatClampNeg (List.replicate (n.toNatClampNeg + 1) 0))) := by
  rw [own_LE_2]; exact own_GBmk (k := 2) (own_n5a h) (Nat.le_trans (own_n5b h) (by decide)) D rfl (by decide)
theorem own_gec_2 {es : List Int32} (h : es.length = 4) : own_gec_r es = (2 : Int32) := by unfold own_gec_r; rw [h]; decide
theorem own_q2_2_0 {es : List Int32} (h : es.length = 4) : (0 : Int32) < own_gec_r es := by rw [own_gec_2 h]; decide
theorem own_q3_2_0 {es : List Int32} (h : es.length = 4) : ¬ ((2 : Int32) * (own_cx (0 : Int32) (own_gec_r es))) < 0 ∧ ((2 : Int32) * (own_cx (0 : Int32) (own_gec_r es))).toNatClampNeg < es.length := by rw [own_gec_2 h, h]; decide
theorem own_q4_2_0 {es : List Int32} (h : es.length = 4) : ¬ (((2 : Int32) * (own_cx (0 : Int32) (own_gec_r es))) + (1 : Int32)) < 0 ∧ (((2 : Int32) * (own_cx (0 : Int32) (own_gec_r es))) + (1 : Int32)).toNatClampNeg < es.length := by rw [own_gec_2 h, h]; decide
theorem own_f_2_0 (x0 x1 x2 x3 : Int32) : own_gfir_r (0 : Int32) [x0, x1, x2, x3] = x0 := rfl
theorem own_s_2_0 (x0 x1 x2 x3 : Int32) : own_gsec_r (0 : Int32) [x0, x1, x2, x3] = x1 := rfl
theorem own_q2_2_1 {es : List Int32} (h : es.length = 4) : (1 : Int32) < own_gec_r es := by rw [own_gec_2 h]; decide
theorem own_q3_2_1 {es : List Int32} (h : es.length = 4) : ¬ ((2 : Int32) * (own_cx (1 : Int32) (own_gec_r es))) < 0 ∧ ((2 : Int32) * (own_cx (1 : Int32) (own_gec_r es))).toNatClampNeg < es.length := by rw [own_gec_2 h, h]; decide
theorem own_q4_2_1 {es : List Int32} (h : es.length = 4) : ¬ (((2 : Int32) * (own_cx (1 : Int32) (own_gec_r es))) + (1 : Int32)) < 0 ∧ (((2 : Int32) * (own_cx (1 : Int32) (own_gec_r es))) + (1 : Int32)).toNatClampNeg < es.length := by rw [own_gec_2 h, h]; decide
theorem own_f_2_1 (x0 x1 x2 x3 : Int32) : own_gfir_r (1 : Int32) [x0, x1, x2, x3] = x2 := rfl
theorem own_s_2_1 (x0 x1 x2 x3 : Int32) : own_gsec_r (1 : Int32) [x0, x1, x2, x3] = x3 := rfl
theorem own_hd_3 {es : List Int32} (h : es.length = 16) : ¬ ((2 : Int32) * (3 : Int32)) = (Int32.ofNat es.length) := by rw [h]; decide
theorem own_LE_3 (x0 x1 x2 x3 x4 x5 : Int32) : own_cof_l ((2 : Int32) * (3 : Int32)) [x0, x1, x2, x3, x4, x5, (0 : Int32), (0 : Int32), (0 : Int32), (0 : Int32), (0 : Int32), (0 : Int32), (0 : Int32), (0 : Int32), (0 : Int32), (0 : Int32)] = [x0, x1, x2, x3, x4, x5] := rfl
theorem own_hle_3 (x0 x1 x2 x3 x4 x5 : Int32) : (own_cof_l ((2 : Int32) * (3 : Int32)) [x0, x1, x2, x3, x4, x5, (0 : Int32), (0 : Int32), (0 : Int32), (0 : Int32), (0 : Int32), (0 : Int32), (0 : Int32), (0 : Int32), (0 : Int32), (0 : Int32)]).length ≤ 32 := by
  rw [own_LE_3]; exact Nat.le_of_ble_eq_true rfl
theorem own_gb_3 {x0 x1 x2 x3 x4 x5 n : Int32} {ds : List Int32} (h : 0 ≤ n.toInt ∧ n.toInt ≤ 8) (D : own_DG [x0, x1, x2, x3, x4, x5] ds n.toNatClampNeg) : own_GB (own_cof_l ((2 : Int32) * (3 : Int32)) [x0, x1, x2, x3, x4, x5, (0 : Int32), (0 : Int32), (0 : Int32), (0 : Int32), (0 : Int32), (0 : Int32), (0 : Int32), (0 : Int32), (0 : Int32), (0 : Int32)]) (own_cof_l n (own_fsL ds n.toNatClampNeg (List.replicate (n.toNatClampNeg + 1) 0))) := by
  rw [own_LE_3]; exact own_GBmk (k := 3) (own_n5a h) (Nat.le_trans (own_n5b h) (by decide)) D rfl (by decide)
theorem own_gec_3 {es : List Int32} (h : es.length = 6) : own_gec_r es = (3 : Int32) := by unfold own_gec_r; rw [h]; decide
theorem own_q2_3_0 {es : List Int32} (h : es.length = 6) : (0 : Int32) < own_gec_r es := by rw [own_gec_3 h]; decide
theorem own_q3_3_0 {es : List Int32} (h : es.length = 6) : ¬ ((2 : Int32) * (own_cx (0 : Int32) (own_gec_r es))) < 0 ∧ ((2 : Int32) * (own_cx (0 : Int32) (own_gec_r es))).toNatClampNeg < es.length := by rw [own_gec_3 h, h]; decide
theorem own_q4_3_0 {es : List Int32} (h : es.length = 6) : ¬ (((2 : Int32) * (own_cx (0 : Int32) (own_gec_r es))) + (1 : Int32)) < 0 ∧ (((2 : Int32) * (own_cx (0 : Int32) (own_gec_r es))) + (1 : Int32)).toNatClampNeg < es.length := by rw [own_gec_3 h, h]; decide
theorem own_f_3_0 (x0 x1 x2 x3 x4 x5 : Int32) : own_gfir_r (0 : Int32) [x0, x1, x2, x3, x4, x5] = x0 := rfl
theorem own_s_3_0 (x0 x1 x2 x3 x4 x5 : Int32) : own_gsec_r (0 : Int32) [x0, x1, x2, x3, x4, x5] = x1 := rfl
theorem own_q2_3_1 {es : List Int32} (h : es.length = 6) : (1 : Int32) < own_gec_r es := by rw [own_gec_3 h]; decide
theorem own_q3_3_1 {es : List Int32} (h : es.length = 6) : ¬ ((2 : Int32) * (own_cx (1 : Int32) (own_gec_r es))) < 0 ∧ ((2 : Int32) * (own_cx (1 : Int32) (own_gec_r es))).toNatClampNeg < es.length := by rw [own_gec_3 h, h]; decide
theorem own_q4_3_1 {es : List Int32} (h : es.length = 6) : ¬ (((2 : Int32) * (own_cx (1 : Int32) (own_gec_r es))) + (1 : Int32)) < 0 ∧ (((2 : Int32) * (own_cx (1 : Int32) (own_gec_r es))) + (1 : Int32)).toNatClampNeg < es.length := by rw [own_gec_3 h, h]; decide
theorem own_f_3_1 (x0 x1 x2 x3 x4 x5 : Int32) : own_gfir_r (1 : Int32) [x0, x1, x2, x3, x4, x5] = x2 := rfl
theorem own_s_3_1 (x0 x1 x2 x3 x4 x5 : Int32) : own_gsec_r (1 : Int32) [x0, x1, x2, x3, x4, x5] = x3 := rfl
theorem own_q2_3_2 {es : List Int32} (h : es.length = 6) : (2 : Int32) < own_gec_r es := by rw [own_gec_3 h]; decide
theorem own_q3_3_2 {es : List Int32} (h : es.length = 6) : ¬ ((2 : Int32) * (own_cx (2 : Int32) (own_gec_r es))) < 0 ∧ ((2 : Int32) * (own_cx (2 : Int32) (own_gec_r es))).toNatClampNeg < es.length := by rw [own_gec_3 h, h]; decide
theorem own_q4_3_2 {es : List Int32} (h : es.length = 6) : ¬ (((2 : Int32) * (own_cx (2 : Int32) (own_gec_r es))) + (1 : Int32)) < 0 ∧ (((2 : Int32) * (own_cx (2 : Int32) (own_gec_r es))) + (1 : Int32)).toNatClampNeg < es.length := by rw [own_gec_3 h, h]; decide
theorem own_f_3_2 (x0 x1 x2 x3 x4 x5 : Int32) : own_gfir_r (2 : Int32) [x0, x1, x2, x3, x4, x5] = x4 := rfl
theorem own_s_3_2 (x0 x1 x2 x3 x4 x5 : Int32) : own_gsec_r (2 : Int32) [x0, x1, x2, x3, x4, x5] = x5 := rfl
/-- what the graph's lists hold -/
def own_GS (es : List Int32) (N : Nat) (fs sn se : List Int32) : Prop := fs.length = N + 1 ∧ (∀ u, u ≤ N → fs.getD u 0 = Int32.ofNat (own_pre es u)) ∧ sn.length = es.length ∧ se.length = es.length ∧ ∀ j, j < es.length → sn.getD (own_slot es j) 0 = es.getD (j ^^^ 1) 0 ∧ se.getD (own_slot es j) 0 = Int32.ofNat j / (2 : Int32)
theorem own_GSmk {es LE ds fs sn se : List Int32} {n : Int32} (h : 0 ≤ n.toInt ∧ n.toInt ≤ 8) (D : own_DG es ds n.toNatClampNeg) (hl : es.length ≤ 32) (hle : LE = es) (h1 : own_fsL ds n.toNatClampNeg (List.replicate (n.toNatClampNeg + 1) 0) = fs)
    (h2 : own_l1 LE (own_cof_l n (own_fsL ds n.toNatClampNeg (List.replicate (n.toNatClampNeg + 1) 0))) (List.replicate LE.length 0) LE.length = sn) (h3 : own_l2 LE (own_cof_l n (own_fsL ds n.toNatClampNeg (List.replicate (n.toNatClampNeg + 1) 0))) (List.replicate LE.length 0) LE.length = se) : own_GS es n.toNatClampNeg fs sn se := by
  subst hle
  subst h1 h2 h3
  obtain ⟨a, b⟩ := own_n0_at (own_n5a h) (Nat.le_trans (own_n5b h) (by decide)) D
  refine ⟨own_fsL_len2 .., ?_, by rw [own_l1_len, List.length_replicate], by rw [own_l2_len, List.length_replicate], ?_⟩
  · intro u hu
    rw [own_fsL_at D _ (Nat.le_refl _) u, if_pos hu]
  · intro j hj
    exact own_l1_at D.2.1 a b (by rw [List.length_replicate]) hl _ (Nat.le_refl _) j hj
theorem own_be1 {v n : Int32} (h : 0 ≤ n.toInt ∧ n.toInt ≤ 8) (b : own_be v n) : (v + (1 : Int32)) = Int32.ofNat (v.toNatClampNeg + 1) ∧ v.toNatClampNeg + 1 ≤ n.toNatClampNeg ∧ n.toNatClampNeg ≤ 8 := by
  have e0 : (0 : Int32).toInt = 0 := rfl
  have e1 : v = Int32.ofNat v.toNatClampNeg := by
    apply own_inj b.1 (own_nnL (by have := own_n5b h; have := b.2.2; omega))
    rw [own_toN (by have := own_n5b h; have := b.2.2; omega)]
  refine ⟨?_, b.2.2, own_n5b h⟩
  rw [← own_one, ← e1]
theorem own_g0 {es fs sn se : List Int32} {v n : Int32} (h : 0 ≤ n.toInt ∧ n.toInt ≤ 8) (G : own_GS es n.toNatClampNeg fs sn se) (b : own_be v n) : ¬ v < 0 ∧ v.toNatClampNeg < fs.length := ⟨b.1, by rw [G.1]; exact Nat.lt_succ_of_lt b.2.2⟩
theorem own_g3 {es fs sn se : List Int32} {v n : Int32} (h : 0 ≤ n.toInt ∧ n.toInt ≤ 8) (G : own_GS es n.toNatClampNeg fs sn se) (b : own_be v n) : ¬ (own_cx v n) < 0 ∧ (own_cx v n).toNatClampNeg < fs.length := own_g0 h G b
theorem own_g4 {es fs sn se : List Int32} {v n : Int32} (h : 0 ≤ n.toInt ∧ n.toInt ≤ 8) (G : own_GS es n.toNatClampNeg fs sn se) (b : own_be v n) : ¬ (v + (1 : Int32)) < 0 ∧ (v + (1 : Int32)).toNatClampNeg < fs.length := by
  obtain ⟨e, l, m⟩ := own_be1 h b
  rw [e, G.1]; exact own_inN (by omega) (by omega)
theorem own_degE {es fs sn se : List Int32} {v n : Int32} (h : 0 ≤ n.toInt ∧ n.toInt ≤ 8) (G : own_GS es n.toNatClampNeg fs sn se) (b : own_be v n) : own_gdg_r v n fs = Int32.ofNat ((own_nt es).count v.toNatClampNeg) := by
  obtain ⟨e, l, m⟩ := own_be1 h b
  unfold own_gdg_r own_cx own_ci
  rw [e, own_toN (by omega), G.2.1 _ l, G.2.1 _ (Nat.le_of_lt b.2.2), own_pre_step, Int32.ofNat_add, Int32.add_comm, Int32.add_sub_cancel]
/-- the place i of v's slots is the slot of an end j at v -/
theorem own_slotE {es fs sn se ns ms : List Int32} {f g : Nat → Int32} {v n c i : Int32} (h : 0 ≤ n.toInt ∧ n.toInt ≤ 8) (G : own_GS es n.toNatClampNeg fs sn se) (b : own_be v n) (B : own_NB es f g v c ns ms) (hl : es.length ≤ 6) (hi : ¬ i < 0) (hc : i < c) :
    ∃ j, j < es.length ∧ (own_nt es)[j]? = some v.toNatClampNeg ∧ ((own_nt es).take j).count v.toNatClampNeg = i.toNatClampNeg ∧ own_gsl_r v i n fs = Int32.ofNat (own_slot es j) := by
  have cl := List.count_le_length (a := v.toNatClampNeg) (l := own_nt es)
  rw [own_nt_len] at cl
  have lt : i.toNatClampNeg < (own_nt es).count v.toNatClampNeg := by
    rw [B.2.2.1] at hc
    exact (own_inb hi hc (by omega)).2
  obtain ⟨j, h1, h2⟩ := own_occ _ _ _ lt
  have jl : j < es.length := by
    rcases Nat.lt_or_ge j es.length with q | q
    · exact q
    · rw [List.getElem?_eq_none (by rw [own_nt_len]; exact q)] at h1; cases h1
  have ev : (es.getD j 0).toNatClampNeg = v.toNatClampNeg := by
    have := own_nt_get es jl
    rw [h1] at this; exact (Option.some.inj this).symm
  refine ⟨j, jl, h1, h2, ?_⟩
  unfold own_gsl_r own_cx own_ci
  rw [G.2.1 _ (Nat.le_of_lt b.2.2)]
  have ei : i = Int32.ofNat i.toNatClampNeg := by
    apply own_inj hi (own_nnL (by omega))
    rw [own_toN (by omega)]
  unfold own_slot
  rw [ev, h2, Int32.ofNat_add, ← ei]
theorem own_g6 {es fs sn se ns ms : List Int32} {f g : Nat → Int32} {v n c i : Int32} (h : 0 ≤ n.toInt ∧ n.toInt ≤ 8) (G : own_GS es n.toNatClampNeg fs sn se) (b : own_be v n) (B : own_NB es f g v c ns ms) (hl : es.length ≤ 6) (hi : ¬ i < 0) (hc : i < c) :
    (¬ (own_gsl_r v i n fs) < 0 ∧ (own_gsl_r v i n fs).toNatClampNeg < sn.length) ∧ (¬ (own_gsl_r v i n fs) < 0 ∧ (own_gsl_r v i n fs).toNatClampNeg < se.length) := by
  obtain ⟨j, jl, h1, h2, h3⟩ := own_slotE h G b B hl hi hc
  have s := own_slot_len es jl
  rw [h3, G.2.2.1, G.2.2.2.1]
  exact ⟨own_inN s (by omega), own_inN s (by omega)⟩
theorem own_nbE {es fs sn se ns ms : List Int32} {f g : Nat → Int32} {v n c i : Int32} (h : 0 ≤ n.toInt ∧ n.toInt ≤ 8) (G : own_GS es n.toNatClampNeg fs sn se) (b : own_be v n) (B : own_NB es f g v c ns ms) (hl : es.length ≤ 6) (hi : ¬ i < 0) (hc : i < c)
    (hf : ∀ j, j < es.length → es.getD (j ^^^ 1) 0 = f j ∧ Int32.ofNat j / (2 : Int32) = g j) :
    own_gnei_r v i n fs sn = ns.getD i.toNatClampNeg 0 ∧ own_ginc_r v i n fs se = ms.getD i.toNatClampNeg 0 := by
  obtain ⟨j, jl, h1, h2, h3⟩ := own_slotE h G b B hl hi hc
  have s := own_slot_len es jl
  have q := G.2.2.2.2 j jl
  have r := B.2.2.2 j h1
  rw [h2] at r
  unfold own_gnei_r own_ginc_r
  rw [h3, own_toN (by omega), q.1, q.2, r.1, r.2]
  exact hf j jl
theorem own_inE {es : List Int32} {f g : Nat → Int32} {v c c' p q e : Int32} {ns ms ns' ms' : List Int32} (h : own_NB es f g v c ns ms) (hp : ¬ p < 0) (hq : ¬ q < 0) (hv : ¬ v < 0) (m m' : Nat) (hm : es.length = m) (hm' : m + 1 = m') (hl : m < 5) (f1 : f m = q) (g1 : g m = e) (f2 : f m' = p) (g2 : g m' = e)
    (e1 : own_inc_r c v p q = c') (e2 : own_inc_ns c v p q ns = ns') (e3 : own_inc_ms c v e p q ms = ms') : own_NB (es ++ [p] ++ [q]) f g v c' ns' ms' := by
  subst e1 e2 e3
  subst hm'
  subst hm
  have l2 : (es ++ [p]).length = es.length + 1 := by rw [List.length_append]; rfl
  have s := own_NBs h hp hv (by omega) f1 g1
  unfold own_inc_r own_inc_ns own_inc_ms
  by_cases a : p = v
  · have t := own_NBs (x := p) (y := e) (s.1 a) hq hv (by omega) (by rw [l2]; exact f2) (by rw [l2]; exact g2)
    rw [if_pos a, if_pos a, if_pos a]
    by_cases b : q = v
    · rw [if_pos b, if_pos b, if_pos b]; exact t.1 b
    · rw [if_neg b, if_neg b, if_neg b]; exact t.2 b
  · have t := own_NBs (x := p) (y := e) (s.2 a) hq hv (by omega) (by rw [l2]; exact f2) (by rw [l2]; exact g2)
    rw [if_neg a, if_neg a, if_neg a]
    by_cases b : q = v
    · rw [if_pos b, if_pos b, if_pos b]; exact t.1 b
    · rw [if_neg b, if_neg b, if_neg b]; exact t.2 b
theorem own_icB {es : List Int32} {f g : Nat → Int32} {v c : Int32} {ns ms : List Int32} (h : own_NB es f g v c ns ms) (hl : es.length < 5) : (¬ c < 0 ∧ c.toNatClampNeg < ns.length) ∧ (¬ c < 0 ∧ c.toNatClampNeg < ms.length) ∧ (¬ (c + (1 : Int32)) < 0 ∧ (c + (1 : Int32)).toNatClampNeg < ns.length) ∧ (¬ (c + (1 : Int32)) < 0 ∧ (c + (1 : Int32)).toNatClampNeg < ms.length) := by
  have cl := List.count_le_length (a := v.toNatClampNeg) (l := own_nt es)
  rw [own_nt_len] at cl
  obtain ⟨h1, h2, h3, h4⟩ := h
  rw [h1, h2, h3, own_one]
  exact ⟨own_inN (by omega) (by omega), own_inN (by omega) (by omega), own_inN (by omega) (by omega), own_inN (by omega) (by omega)⟩
theorem own_cz {c : Int32} (h : 0 < c) : c ≠ 0 := by
  intro e; rw [e] at h; exact absurd h (by decide)
theorem own_iB {y c : Int32} (h : 0 < c) : ¬ ((y &&& (255 : Int32)) % c) < 0 ∧ ((y &&& (255 : Int32)) % c) < c := by
  have e0 : (0 : Int32).toInt = 0 := rfl
  rw [Int32.lt_iff_toInt_lt, e0] at h
  have q := (c_iremV (y &&& (255 : Int32)) c).1 (own_255 y) h
  rw [Int32.lt_iff_toInt_lt, Int32.lt_iff_toInt_lt, e0]; omega
theorem own_iL {es : List Int32} {f g : Nat → Int32} {v c i : Int32} {ns ms : List Int32} (h : own_NB es f g v c ns ms) (hl : es.length ≤ 6) (hi : ¬ i < 0) (hc : i < c) : (¬ i < 0 ∧ i.toNatClampNeg < ns.length) ∧ (¬ i < 0 ∧ i.toNatClampNeg < ms.length) := by
  have cl := List.count_le_length (a := v.toNatClampNeg) (l := own_nt es)
  rw [own_nt_len] at cl
  rw [h.2.2.1] at hc
  have q := (own_inb hi hc (by omega)).2
  rw [h.1, h.2.1]
  exact ⟨⟨hi, by omega⟩, ⟨hi, by omega⟩⟩
def own_f (es : List Int32) (j : Nat) : Int32 := es.getD (j ^^^ 1) 0
def own_h : Nat → Int32
  | 0 => 0 | 1 => 0 | 2 => 1 | 3 => 1 | 4 => 2 | 5 => 2 | _ => 0
theorem own_hd2 : ∀ j, j < 6 → Int32.ofNat j / (2 : Int32) = own_h j := by decide
theorem own_fh {es : List Int32} (hl : es.length ≤ 6) : ∀ j, j < es.length → es.getD (j ^^^ 1) 0 = own_f es j ∧ Int32.ofNat j / (2 : Int32) = own_h j := fun j h => ⟨rfl, own_hd2 j (by omega)⟩
def Q0 (n0 : Nat) (v : Option Value) (h : Heap) (L : List Loc) : Prop := v = some (.int (1 : Int32)) ∧ Fr n0 L
theorem own_pd6 : parseMethodDescriptor "(I)V" = some ⟨[.int], none⟩ := by decide +kernel
theorem own_pd7 : parseMethodDescriptor "()Lcom/example/cyclecut/cyclecut/graph/Graph;" = some ⟨[], some (.object "com/example/cyclecut/cyclecut/graph/Graph")⟩ := by decide +kernel
theorem own_pd8 : parseMethodDescriptor "([I[IIIIII)I" = some ⟨[(.array .int), (.array .int), .int, .int, .int, .int, .int], some .int⟩ := by decide +kernel
set_option maxRecDepth 65536 in
set_option maxHeartbeats 40000000 in
theorem rm0 (l : Launch) (Z : State) (a0 : Array Value) (hw : ∀ d ∈ tables_1, d.before a0 Z = true) (ws : List Jvm.Cond) (p1 : Int32) (p2 : Int32) (p3 : Int32) (p4 : Int32) (p5 : Int32) (h0 : Heap) (n0 : Nat) (Z0 : n0 ≤ h0.size)  :
    MetFree l x (head1 (Jvm.Cond.code x code maxLocals ret :: ws) room_1) (fun aa U => aa = #[(.int p1), (.int p2), (.int p3), (.int p4), (.int p5)] ∧ Z.Warmed39 U.vm ∧ U.heap = h0) (fun _ _ _ _ _ => True) (fun _ U o U' => ∃ v L, o = .returned v ∧ Q0 n0 v U'.heap L ∧ FrameEnd U o U' L room_1.cells room_1.slots) := by
  refine MetFree.of_bodySF (plainFor_of_name own_pn5) hisR ?_
  intro p e s m args below meth c s₁ Bd hml0 hP hK
  obtain ⟨rfl, hZ, hh⟩ := hP
  have hx := Bd.exec
  have hby := Bd.bytes
  have hml : c.maxLocals = 22 := hml0
  have hlk : meth.locks = false := BodyLoose.notSynchronized Bd
  have hown : s.vm.findClass "com/example/cyclecut/cyclecut/graph/GraphBuilderBuildPinLaw" = some m.cls := findClass_of_methodNamed Bd.named
  have hnm := (name_of_methodNamed Bd.named Bd.method).1
  have X0 : Stand p l e room_1 s m #[(.int p1), (.int p2), (.int p3), (.int p4), (.int p5)] below meth c s₁ [] 0 0 := Stand.of_body Bd
  have e0 : s₁.heap = h0 := by rw [← hh, Bd.state]; rfl
  have N0 := Fr.nil n0
  show own_Go p e below s (Q0 n0) room_1.cells room_1.slots (s₁.setTop (entryFrame m #[(.int p1), (.int p2), (.int p3), (.int p4), (.int p5)] maxLocals))
  refine own_go (B := s₁.setTop (mkF m 0 #[.val (.int p1), .val (.int p2), .val (.int p3), .val (.int p4), .val (.int p5), .unset, .unset, .unset, .unset, .unset, .unset, .unset, .unset, .unset, .unset, .unset, .unset, .unset, .unset, .unset, .unset, .unset] [])) (fun tgt cont => (XT.entry rfl).trans cont) ?_
  refine own_go (B := s₁.setTop (mkF m 6 #[.val (.int p1), .val (.int p2), .val (.int p3), .val (.int p4), .val (.int p5), .unset, .unset, .unset, .unset, .unset, .unset, .unset, .unset, .unset, .unset, .unset, .unset, .unset, .unset, .unset, .unset, .unset] [(.int ((p1 &&& (7 : Int32)) % (5 : Int32)))])) (fun tgt cont => ?_) ?_
  · refine XS.iloadN X0.here hx rfl (hb hby at_0) rfl ?_
    refine XT.bipushV X0.here hx rfl (7 : Int32) (hb hby at_1) rfl ?_
    refine XS.iand X0.here hx rfl (hb hby at_3) rfl ?_
    refine XT.iconstV X0.here hx rfl (5 : Int32) (hb hby at_4) rfl ?_
    refine iremM X0 hx rfl (hb hby at_5) rfl (by decide) ?_
    exact cont
  generalize hv1 : ((p1 &&& (7 : Int32)) % (5 : Int32)) = v1
  refine own_go (B := s₁.setTop (mkF m 8 #[.val (.int p1), .val (.int p2), .val (.int p3), .val (.int p4), .val (.int p5), .val (.int v1), .unset, .unset, .unset, .unset, .unset, .unset, .unset, .unset, .unset, .unset, .unset, .unset, .unset, .unset, .unset, .unset] [])) (fun tgt cont => ?_) ?_
  · refine XS.istore X0.here hx rfl (hb hby at_6) rfl (l' := #[.val (.int p1), .val (.int p2), .val (.int p3), .val (.int p4), .val (.int p5), .val (.int v1), .unset, .unset, .unset, .unset, .unset, .unset, .unset, .unset, .unset, .unset, .unset, .unset, .unset, .unset, .unset, .unset]) rfl ?_
    exact cont
  have n1 : 0 ≤ v1.toInt ∧ v1.toInt ≤ 8 := by rw [← hv1]; exact own_n5 p1
  have n2 := own_n5a n1
  have n3 := own_n5b n1
  refine own_go (B := s₁.setTop (mkF m 10 #[.val (.int p1), .val (.int p2), .val (.int p3), .val (.int p4), .val (.int p5), .val (.int v1), .unset, .unset, .unset, .unset, .unset, .unset, .unset, .unset, .unset, .unset, .unset, .unset, .unset, .unset, .unset, .unset] [(.int v1)])) (fun tgt cont => ?_) ?_
  · refine XS.iload X0.here hx rfl (hb hby at_8) rfl ?_
    exact cont
  by_cases hc2 : v1 = 0
  ·
    refine own_go (B := s₁.setTop (mkF m 24 #[.val (.int p1), .val (.int p2), .val (.int p3), .val (.int p4), .val (.int p5), .val (.int v1), .val (.int (0 : Int32)), .unset, .unset, .unset, .unset, .unset, .unset, .unset, .unset, .unset, .unset, .unset, .unset, .unset, .unset, .unset] [])) (fun tgt cont => ?_) ?_
    · refine XS.ifNo X0.here hx rfl (hb hby at_10) rfl (XT.i0_ne_f hc2) ?_
      refine XT.iconstV X0.here hx rfl (0 : Int32) (hb hby at_13) rfl ?_
      refine XS.goto X0.here hx rfl (pc0 := 14) (pc' := 22) rfl (hb hby at_14) (by decide) (by decide) ?_
      refine XS.istore X0.here hx rfl (hb hby at_22) rfl (l' := #[.val (.int p1), .val (.int p2), .val (.int p3), .val (.int p4), .val (.int p5), .val (.int v1), .val (.int (0 : Int32)), .unset, .unset, .unset, .unset, .unset, .unset, .unset, .unset, .unset, .unset, .unset, .unset, .unset, .unset, .unset]) rfl ?_
      exact cont
    refine own_go (B := s₁.setTop (mkF m 39 #[.val (.int p1), .val (.int p2), .val (.int p3), .val (.int p4), .val (.int p5), .val (.int v1), .val (.int (0 : Int32)), .val (.int (0 : Int32)), .val (.int (0 : Int32)), .val (.int (0 : Int32)), .val (.int (0 : Int32)), .val (.int (0 : Int32)), .unset, .unset, .unset, .unset, .unset, .unset, .unset, .unset, .unset, .unset] [])) (fun tgt cont => ?_) ?_
    · refine XT.iconstV X0.here hx rfl (0 : Int32) (hb hby at_24) rfl ?_
      refine XS.istore X0.here hx rfl (hb hby at_25) rfl (l' := #[.val (.int p1), .val (.int p2), .val (.int p3), .val (.int p4), .val (.int p5), .val (.int v1), .val (.int (0 : Int32)), .val (.int (0 : Int32)), .unset, .unset, .unset, .unset, .unset, .unset, .unset, .unset, .unset, .unset, .unset, .unset, .unset, .unset]) rfl ?_
      refine XT.iconstV X0.here hx rfl (0 : Int32) (hb hby at_27) rfl ?_
      refine XS.istore X0.here hx rfl (hb hby at_28) rfl (l' := #[.val (.int p1), .val (.int p2), .val (.int p3), .val (.int p4), .val (.int p5), .val (.int v1), .val (.int (0 : Int32)), .val (.int (0 : Int32)), .val (.int (0 : Int32)), .unset, .unset, .unset, .unset, .unset, .unset, .unset, .unset, .unset, .unset, .unset, .unset, .unset]) rfl ?_
      refine XT.iconstV X0.here hx rfl (0 : Int32) (hb hby at_30) rfl ?_
      refine XS.istore X0.here hx rfl (hb hby at_31) rfl (l' := #[.val (.int p1), .val (.int p2), .val (.int p3), .val (.int p4), .val (.int p5), .val (.int v1), .val (.int (0 : Int32)), .val (.int (0 : Int32)), .val (.int (0 : Int32)), .val (.int (0 : Int32)), .unset, .unset, .unset, .unset, .unset, .unset, .unset, .unset, .unset, .unset, .unset, .unset]) rfl ?_
      refine XT.iconstV X0.here hx rfl (0 : Int32) (hb hby at_33) rfl ?_
      refine XS.istore X0.here hx rfl (hb hby at_34) rfl (l' := #[.val (.int p1), .val (.int p2), .val (.int p3), .val (.int p4), .val (.int p5), .val (.int v1), .val (.int (0 : Int32)), .val (.int (0 : Int32)), .val (.int (0 : Int32)), .val (.int (0 : Int32)), .val (.int (0 : Int32)), .unset, .unset, .unset, .unset, .unset, .unset, .unset, .unset, .unset, .unset, .unset]) rfl ?_
      refine XT.iconstV X0.here hx rfl (0 : Int32) (hb hby at_36) rfl ?_
      refine XS.istore X0.here hx rfl (hb hby at_37) rfl (l' := #[.val (.int p1), .val (.int p2), .val (.int p3), .val (.int p4), .val (.int p5), .val (.int v1), .val (.int (0 : Int32)), .val (.int (0 : Int32)), .val (.int (0 : Int32)), .val (.int (0 : Int32)), .val (.int (0 : Int32)), .val (.int (0 : Int32)), .unset, .unset, .unset, .unset, .unset, .unset, .unset, .unset, .unset, .unset]) rfl ?_
      exact cont
    refine own_go (B := s₁.setTop (mkF m 119 #[.val (.int p1), .val (.int p2), .val (.int p3), .val (.int p4), .val (.int p5), .val (.int v1), .val (.int (0 : Int32)), .val (.int (0 : Int32)), .val (.int (0 : Int32)), .val (.int (0 : Int32)), .val (.int (0 : Int32)), .val (.int (0 : Int32)), .val (.int (0 : Int32)), .unset, .unset, .unset, .unset, .unset, .unset, .unset, .unset, .unset] [])) (fun tgt cont => ?_) ?_
    · refine XT.iconstV X0.here hx rfl (0 : Int32) (hb hby at_39) rfl ?_
      refine XS.istore X0.here hx rfl (hb hby at_40) rfl (l' := #[.val (.int p1), .val (.int p2), .val (.int p3), .val (.int p4), .val (.int p5), .val (.int v1), .val (.int (0 : Int32)), .val (.int (0 : Int32)), .val (.int (0 : Int32)), .val (.int (0 : Int32)), .val (.int (0 : Int32)), .val (.int (0 : Int32)), .val (.int (0 : Int32)), .unset, .unset, .unset, .unset, .unset, .unset, .unset, .unset, .unset]) rfl ?_
      refine XS.iload X0.here hx rfl (hb hby at_42) rfl ?_
      refine XS.ifYes X0.here hx rfl (pc0 := 44) (pc' := 119) rfl (hb hby at_44) rfl (XT.i0_le_t (own_zf hc2)) (by decide) (by decide) ?_
      exact cont
    obtain ⟨T3, h3, X3, e3, E3, A3, D3, -, st3⟩ := newO X0 hx hZ hown (hw _ (List.mem_of_getElem? (i := 0) rfl)) (hw _ (List.mem_of_getElem? (i := 1) rfl)) (hw _ (List.mem_of_getElem? (i := 2) rfl)) e0 (g := (mkF m 119 #[.val (.int p1), .val (.int p2), .val (.int p3), .val (.int p4), .val (.int p5), .val (.int v1), .val (.int (0 : Int32)), .val (.int (0 : Int32)), .val (.int (0 : Int32)), .val (.int (0 : Int32)), .val (.int (0 : Int32)), .val (.int (0 : Int32)), .val (.int (0 : Int32)), .unset, .unset, .unset, .unset, .unset, .unset, .unset, .unset, .unset] [])) rfl (hb hby at_119) (by decide) (by decide)
    obtain ⟨b3, g3⟩ : ∃ z, z = h0.size := ⟨_, rfl⟩
    rw [← g3] at A3 D3 st3
    have g_b3 : n0 ≤ b3 := Nat.le_trans Z0 (Nat.le_of_eq g3.symm)
    have sz_b3 : h0.size ≤ b3 := Nat.le_trans (Keep.refl h0 []).1 (Nat.le_of_eq g3.symm)
    have kk3 : Keep h0 h3 [] := (Keep.refl h0 []).ext E3
    have zp3 : n0 ≤ h3.size := Nat.le_trans Z0 kk3.1
    have F_ends_b3 : Fld Z h3 b3 "com/example/cyclecut/cyclecut/graph/Graph$Builder" "ends" "[I" .null := D3 (Or.inl (hw _ (List.mem_of_getElem? (i := 11) rfl))) (ty := (.array .int)) (by decide)
    have F_vertexCount_b3 : Fld Z h3 b3 "com/example/cyclecut/cyclecut/graph/Graph$Builder" "vertexCount" "I" (.int (0 : Int32)) := D3 (Or.inr (hw _ (List.mem_of_getElem? (i := 13) rfl))) (ty := .int) (by decide)
    have F_degree_b3 : Fld Z h3 b3 "com/example/cyclecut/cyclecut/graph/Graph$Builder" "degree" "[I" .null := D3 (Or.inr (hw _ (List.mem_of_getElem? (i := 15) rfl))) (ty := (.array .int)) (by decide)
    have F_edgeCount_b3 : Fld Z h3 b3 "com/example/cyclecut/cyclecut/graph/Graph$Builder" "edgeCount" "I" (.int (0 : Int32)) := D3 (Or.inl (hw _ (List.mem_of_getElem? (i := 25) rfl))) (ty := .int) (by decide)
    refine own_go (fun tgt cont => st3 tgt cont) ?_
    show own_Go p e below s (Q0 n0) room_1.cells room_1.slots (T3.setTop (mkF m 122 #[.val (.int p1), .val (.int p2), .val (.int p3), .val (.int p4), .val (.int p5), .val (.int v1), .val (.int (0 : Int32)), .val (.int (0 : Int32)), .val (.int (0 : Int32)), .val (.int (0 : Int32)), .val (.int (0 : Int32)), .val (.int (0 : Int32)), .val (.int (0 : Int32)), .unset, .unset, .unset, .unset, .unset, .unset, .unset, .unset, .unset] [(.ref b3)]))
    refine own_go (B := T3.setTop (mkF m 125 #[.val (.int p1), .val (.int p2), .val (.int p3), .val (.int p4), .val (.int p5), .val (.int v1), .val (.int (0 : Int32)), .val (.int (0 : Int32)), .val (.int (0 : Int32)), .val (.int (0 : Int32)), .val (.int (0 : Int32)), .val (.int (0 : Int32)), .val (.int (0 : Int32)), .unset, .unset, .unset, .unset, .unset, .unset, .unset, .unset, .unset] [(.int v1), (.ref b3), (.ref b3)])) (fun tgt cont => ?_) ?_
    · refine XS.dup X3.here hx rfl (hb hby at_122) rfl rfl ?_
      refine XS.iload X3.here hx rfl (hb hby at_123) rfl ?_
      exact cont
    -- pc 125: Graph$Builder.<init>
    obtain ⟨_, _, ⟨T4, L4, k4, n4⟩, -, X4, ⟨Lc4, hQ4, l4, y4, z4⟩, st4⟩ := X3.specialBack hx (y := (⟨"com/example/cyclecut/cyclecut/graph/Graph$Builder", "<init>", "(I)V"⟩ : MethodName)) rfl hown (mvT hZ (hw _ (List.mem_of_getElem? (i := 3) rfl))) (mvT hZ (hw _ (List.mem_of_getElem? (i := 4) rfl))) (mvT hZ (hw _ (List.mem_of_getElem? (i := 5) rfl))) (by decide) (backOf (W := 1) (rm1 l Z a0 hw [] b3 v1 h3 n0 zp3 A3 F_vertexCount_b3 F_degree_b3 F_ends_b3 F_edgeCount_b3 g_b3 n2 n3) hZ (hw _ (List.mem_of_getElem? (i := 5) rfl)) (hw _ (List.mem_of_getElem? (i := 2) rfl)) (by decide) (by decide)) (g := (mkF m 125 #[.val (.int p1), .val (.int p2), .val (.int p3), .val (.int p4), .val (.int p5), .val (.int v1), .val (.int (0 : Int32)), .val (.int (0 : Int32)), .val (.int (0 : Int32)), .val (.int (0 : Int32)), .val (.int (0 : Int32)), .val (.int (0 : Int32)), .val (.int (0 : Int32)), .unset, .unset, .unset, .unset, .unset, .unset, .unset, .unset, .unset] [(.int v1), (.ref b3), (.ref b3)])) rfl (by rw [hml]; rfl) (Steps.refl _) (a := b3) (argsL := [(.int v1)]) (rest := [(.ref b3)]) (lenOf own_pd6 rfl) rfl (by show 2 * 0 + _ ≤ _; exact Nat.le_of_eq rfl) (hb hby at_125) (fun _ _ => ⟨rfl, e3, (by decide : 0 + 1 + 2 ≤ _), (by decide : 0 + 4 + 24 ≤ _)⟩)
    dsimp only [Pt.U, Pt.locs, Pt.cells, Pt.slots] at X4 l4 y4 z4 st4 hQ4
    subst l4 y4 z4
    obtain ⟨b4_0, b4_1, rfl, N4q, K4, ex4_0, fa4_0, fa4_1, fa4_2, fa4_3, gb4_0, ab4_0, eb4_0, gb4_1, ab4_1, eb4_1, ne_b4_0_b4_1⟩ := hQ4
    have N4 := Fr.app N0 N4q
    have g_b4_0 : n0 ≤ b4_0 := Nat.le_trans zp3 gb4_0
    have sz_b4_0 : h0.size ≤ b4_0 := Nat.le_trans kk3.1 gb4_0
    have ne_b3_b4_0 : b3 ≠ b4_0 := Nat.ne_of_lt (Nat.lt_of_lt_of_le A3.lt gb4_0)
    have g_b4_1 : n0 ≤ b4_1 := Nat.le_trans zp3 gb4_1
    have sz_b4_1 : h0.size ≤ b4_1 := Nat.le_trans kk3.1 gb4_1
    have ne_b3_b4_1 : b3 ≠ b4_1 := Nat.ne_of_lt (Nat.lt_of_lt_of_le A3.lt gb4_1)
    have kk4 : Keep h0 T4.heap [] := kk3.trans K4 (allS (Or.inr sz_b3) all0)
    have zp4 : n0 ≤ T4.heap.size := Nat.le_trans Z0 kk4.1
    generalize hw5 : (own_bi_degree v1) = w5 at ab4_0
    generalize hw6 : own_bi_ends = w6 at ab4_1
    refine own_go (fun tgt cont => st4.trans cont) ?_
    show own_Go p e below s (Q0 n0) room_1.cells room_1.slots (T4.setTop (mkF m 128 #[.val (.int p1), .val (.int p2), .val (.int p3), .val (.int p4), .val (.int p5), .val (.int v1), .val (.int (0 : Int32)), .val (.int (0 : Int32)), .val (.int (0 : Int32)), .val (.int (0 : Int32)), .val (.int (0 : Int32)), .val (.int (0 : Int32)), .val (.int (0 : Int32)), .unset, .unset, .unset, .unset, .unset, .unset, .unset, .unset, .unset] [(.ref b3)]))
    have DG0 : own_DG [] w5 v1.toNatClampNeg := by rw [← hw5]; exact own_DG0 _
    have al7 : own_IA Z T4.heap b4_1 [(0 : Int32), (0 : Int32), (0 : Int32), (0 : Int32), (0 : Int32), (0 : Int32), (0 : Int32), (0 : Int32), (0 : Int32), (0 : Int32), (0 : Int32), (0 : Int32), (0 : Int32), (0 : Int32), (0 : Int32), (0 : Int32)] := ab4_1.cong (hw6.symm.trans rfl)
    refine own_go (B := T4.setTop (mkF m 179 #[.val (.int p1), .val (.int p2), .val (.int p3), .val (.int p4), .val (.int p5), .val (.int v1), .val (.int (0 : Int32)), .val (.int (0 : Int32)), .val (.int (0 : Int32)), .val (.int (0 : Int32)), .val (.int (0 : Int32)), .val (.int (0 : Int32)), .val (.int (0 : Int32)), .val (.ref b3), .unset, .unset, .unset, .unset, .unset, .unset, .unset, .unset] [(.ref b3)])) (fun tgt cont => ?_) ?_
    · refine XS.astore X4.here hx rfl (hb hby at_128) rfl rfl (l' := #[.val (.int p1), .val (.int p2), .val (.int p3), .val (.int p4), .val (.int p5), .val (.int v1), .val (.int (0 : Int32)), .val (.int (0 : Int32)), .val (.int (0 : Int32)), .val (.int (0 : Int32)), .val (.int (0 : Int32)), .val (.int (0 : Int32)), .val (.int (0 : Int32)), .val (.ref b3), .unset, .unset, .unset, .unset, .unset, .unset, .unset, .unset]) rfl ?_
      refine XS.iload X4.here hx rfl (hb hby at_130) rfl ?_
      refine XS.ifYes X4.here hx rfl (pc0 := 132) (pc' := 145) rfl (hb hby at_132) rfl (XT.i0_le_t (by first | decide | exact (show ¬ (0 < (0 : Int32)) from by decide))) (by decide) (by decide) ?_
      refine XS.iload X4.here hx rfl (hb hby at_145) rfl ?_
      refine XT.iconstV X4.here hx rfl (1 : Int32) (hb hby at_147) rfl ?_
      refine XS.icmpYes X4.here hx rfl (pc0 := 148) (pc' := 161) rfl (hb hby at_148) rfl (XT.ii_le_t (by first | decide | exact (show ¬ ((1 : Int32) < (0 : Int32)) from by decide))) (by decide) (by decide) ?_
      refine XS.iload X4.here hx rfl (hb hby at_161) rfl ?_
      refine XT.iconstV X4.here hx rfl (2 : Int32) (hb hby at_163) rfl ?_
      refine XS.icmpYes X4.here hx rfl (pc0 := 164) (pc' := 177) rfl (hb hby at_164) rfl (XT.ii_le_t (by first | decide | exact (show ¬ ((2 : Int32) < (0 : Int32)) from by decide))) (by decide) (by decide) ?_
      refine XS.aload X4.here hx rfl (hb hby at_177) rfl rfl ?_
      exact cont
    -- pc 179: Graph$Builder.build
    obtain ⟨cq8, kq8, qa8, qb8, qc8⟩ := isOf hZ rfl ex4_0
    obtain ⟨_, _, ⟨T8, L8, k8, n8⟩, -, X8, ⟨Lc8, hQ8, l8, y8, z8⟩, st8⟩ := X4.virtualBack hx (y := (⟨"com/example/cyclecut/cyclecut/graph/Graph$Builder", "build", "()Lcom/example/cyclecut/cyclecut/graph/Graph;"⟩ : MethodName)) (z := (⟨"com/example/cyclecut/cyclecut/graph/Graph$Builder", "build", "()Lcom/example/cyclecut/cyclecut/graph/Graph;"⟩ : MethodName)) hown (mvT hZ (hw _ (List.mem_of_getElem? (i := 16) rfl))) (mvT hZ (hw _ (List.mem_of_getElem? (i := 17) rfl))) (notFace_of_selects (args := #[]) (mvT hZ (hw _ (List.mem_of_getElem? (i := 19) rfl)))) (mvT hZ (hw _ (List.mem_of_getElem? (i := 19) rfl))) (mvT hZ (hw _ (List.mem_of_getElem? (i := 18) rfl))) (by decide) (backOf (W := 0) (rm3 l Z a0 hw [] b3 v1 b4_0 b4_1 (0 : Int32) w5 [(0 : Int32), (0 : Int32), (0 : Int32), (0 : Int32), (0 : Int32), (0 : Int32), (0 : Int32), (0 : Int32), (0 : Int32), (0 : Int32), (0 : Int32), (0 : Int32), (0 : Int32), (0 : Int32), (0 : Int32), (0 : Int32)] T4.heap n0 zp4 ex4_0 fa4_0 fa4_1 fa4_2 fa4_3 ab4_0 eb4_0 al7 (own_hd_0 rfl) (by decide) (by decide) n2 n3 (own_hle_0 ..) DG0.1 (own_gb_0 n1 DG0)) hZ (hw _ (List.mem_of_getElem? (i := 20) rfl)) (hw _ (List.mem_of_getElem? (i := 2) rfl)) (by decide) (by decide)) qa8 qc8 (g := (mkF m 179 #[.val (.int p1), .val (.int p2), .val (.int p3), .val (.int p4), .val (.int p5), .val (.int v1), .val (.int (0 : Int32)), .val (.int (0 : Int32)), .val (.int (0 : Int32)), .val (.int (0 : Int32)), .val (.int (0 : Int32)), .val (.int (0 : Int32)), .val (.int (0 : Int32)), .val (.ref b3), .unset, .unset, .unset, .unset, .unset, .unset, .unset, .unset] [(.ref b3)])) rfl (by rw [hml]; rfl) (Steps.refl _) (argsL := []) (rest := []) (lenOf own_pd7 rfl) rfl (by show 2 * 0 + _ ≤ _; exact Nat.le_of_eq rfl) (hb hby at_179) (fun _ _ => ⟨rfl, rfl, (by decide : 0 + 1 + 2 + 7 ≤ _), (by decide : 0 + 4 + 24 + 150 ≤ _)⟩)
    dsimp only [Pt.U, Pt.locs, Pt.cells, Pt.slots] at X8 l8 y8 z8 st8 hQ8
    subst l8 y8 z8
    obtain ⟨b8, xe8, xf8, xn8, xs8, rfl, N8q, K8, gb8, eg8, fl8_0, fl8_1, fl8_2, fl8_3, fl8_4, al8_0, al8_1, al8_2, al8_3⟩ := hQ8
    have N8 := Fr.app N4 N8q
    have kk8 : Keep h0 T8.heap [] := kk4.trans K8 all0
    have zp8 : n0 ≤ T8.heap.size := Nat.le_trans Z0 kk8.1
    generalize hw9 : (own_cof_l ((2 : Int32) * (0 : Int32)) [(0 : Int32), (0 : Int32), (0 : Int32), (0 : Int32), (0 : Int32), (0 : Int32), (0 : Int32), (0 : Int32), (0 : Int32), (0 : Int32), (0 : Int32), (0 : Int32), (0 : Int32), (0 : Int32), (0 : Int32), (0 : Int32)]) = w9 at al8_0
    generalize hw10 : (own_fsL w5 v1.toNatClampNeg (List.replicate (v1.toNatClampNeg + 1) 0)) = w10 at al8_1
    generalize hw11 : (own_l1 (own_cof_l ((2 : Int32) * (0 : Int32)) [(0 : Int32), (0 : Int32), (0 : Int32), (0 : Int32), (0 : Int32), (0 : Int32), (0 : Int32), (0 : Int32), (0 : Int32), (0 : Int32), (0 : Int32), (0 : Int32), (0 : Int32), (0 : Int32), (0 : Int32), (0 : Int32)]) (own_cof_l v1 (own_fsL w5 v1.toNatClampNeg (List.replicate (v1.toNatClampNeg + 1) 0))) (List.replicate (own_cof_l ((2 : Int32) * (0 : Int32)) [(0 : Int32), (0 : Int32), (0 : Int32), (0 : Int32), (0 : Int32), (0 : Int32), (0 : Int32), (0 : Int32), (0 : Int32), (0 : Int32), (0 : Int32), (0 : Int32), (0 : Int32), (0 : Int32), (0 : Int32), (0 : Int32)]).length 0) (own_cof_l ((2 : Int32) * (0 : Int32)) [(0 : Int32), (0 : Int32), (0 : Int32), (0 : Int32), (0 : Int32), (0 : Int32), (0 : Int32), (0 : Int32), (0 : Int32), (0 : Int32), (0 : Int32), (0 : Int32), (0 : Int32), (0 : Int32), (0 : Int32), (0 : Int32)]).length) = w11 at al8_2
    generalize hw12 : (own_l2 (own_cof_l ((2 : Int32) * (0 : Int32)) [(0 : Int32), (0 : Int32), (0 : Int32), (0 : Int32), (0 : Int32), (0 : Int32), (0 : Int32), (0 : Int32), (0 : Int32), (0 : Int32), (0 : Int32), (0 : Int32), (0 : Int32), (0 : Int32), (0 : Int32), (0 : Int32)]) (own_cof_l v1 (own_fsL w5 v1.toNatClampNeg (List.replicate (v1.toNatClampNeg + 1) 0))) (List.replicate (own_cof_l ((2 : Int32) * (0 : Int32)) [(0 : Int32), (0 : Int32), (0 : Int32), (0 : Int32), (0 : Int32), (0 : Int32), (0 : Int32), (0 : Int32), (0 : Int32), (0 : Int32), (0 : Int32), (0 : Int32), (0 : Int32), (0 : Int32), (0 : Int32), (0 : Int32)]).length 0) (own_cof_l ((2 : Int32) * (0 : Int32)) [(0 : Int32), (0 : Int32), (0 : Int32), (0 : Int32), (0 : Int32), (0 : Int32), (0 : Int32), (0 : Int32), (0 : Int32), (0 : Int32), (0 : Int32), (0 : Int32), (0 : Int32), (0 : Int32), (0 : Int32), (0 : Int32)]).length) = w12 at al8_3
    refine own_go (fun tgt cont => st8.trans cont) ?_
    show own_Go p e below s (Q0 n0) room_1.cells room_1.slots (T8.setTop (mkF m 182 #[.val (.int p1), .val (.int p2), .val (.int p3), .val (.int p4), .val (.int p5), .val (.int v1), .val (.int (0 : Int32)), .val (.int (0 : Int32)), .val (.int (0 : Int32)), .val (.int (0 : Int32)), .val (.int (0 : Int32)), .val (.int (0 : Int32)), .val (.int (0 : Int32)), .val (.ref b3), .unset, .unset, .unset, .unset, .unset, .unset, .unset, .unset] [(.ref b8)]))
    refine own_go (B := T8.setTop (mkF m 184 #[.val (.int p1), .val (.int p2), .val (.int p3), .val (.int p4), .val (.int p5), .val (.int v1), .val (.int (0 : Int32)), .val (.int (0 : Int32)), .val (.int (0 : Int32)), .val (.int (0 : Int32)), .val (.int (0 : Int32)), .val (.int (0 : Int32)), .val (.int (0 : Int32)), .val (.ref b3), .val (.ref b8), .unset, .unset, .unset, .unset, .unset, .unset, .unset] [])) (fun tgt cont => ?_) ?_
    · refine XS.astore X8.here hx rfl (hb hby at_182) rfl rfl (l' := #[.val (.int p1), .val (.int p2), .val (.int p3), .val (.int p4), .val (.int p5), .val (.int v1), .val (.int (0 : Int32)), .val (.int (0 : Int32)), .val (.int (0 : Int32)), .val (.int (0 : Int32)), .val (.int (0 : Int32)), .val (.int (0 : Int32)), .val (.int (0 : Int32)), .val (.ref b3), .val (.ref b8), .unset, .unset, .unset, .unset, .unset, .unset, .unset]) rfl ?_
      exact cont
    have le : w9 = [] := hw9.symm.trans (own_LE_0 ..)
    have ll : w9.length = 0 := by rw [le]; rfl
    have GS : own_GS [] v1.toNatClampNeg w10 w11 w12 := own_GSmk n1 DG0 (Nat.le_of_ble_eq_true rfl) (own_LE_0 ..) hw10 hw11 hw12
    refine own_go (B := T8.setTop (mkF m 186 #[.val (.int p1), .val (.int p2), .val (.int p3), .val (.int p4), .val (.int p5), .val (.int v1), .val (.int (0 : Int32)), .val (.int (0 : Int32)), .val (.int (0 : Int32)), .val (.int (0 : Int32)), .val (.int (0 : Int32)), .val (.int (0 : Int32)), .val (.int (0 : Int32)), .val (.ref b3), .val (.ref b8), .unset, .unset, .unset, .unset, .unset, .unset, .unset] [(.ref b8)])) (fun tgt cont => ?_) ?_
    · refine XS.aload X8.here hx rfl (hb hby at_184) rfl rfl ?_
      exact cont
    -- pc 186: Graph.vertexCount
    obtain ⟨cq13, kq13, qa13, qb13, qc13⟩ := isOf hZ rfl eg8
    obtain ⟨_, _, ⟨T13, L13, k13, n13⟩, -, X13, ⟨Lc13, hQ13, l13, y13, z13⟩, st13⟩ := X8.virtualBack hx (y := (⟨"com/example/cyclecut/cyclecut/graph/Graph", "vertexCount", "()I"⟩ : MethodName)) (z := (⟨"com/example/cyclecut/cyclecut/graph/Graph", "vertexCount", "()I"⟩ : MethodName)) hown (mvT hZ (hw _ (List.mem_of_getElem? (i := 62) rfl))) (mvT hZ (hw _ (List.mem_of_getElem? (i := 63) rfl))) (notFace_of_selects (args := #[]) (mvT hZ (hw _ (List.mem_of_getElem? (i := 65) rfl)))) (mvT hZ (hw _ (List.mem_of_getElem? (i := 65) rfl))) (mvT hZ (hw _ (List.mem_of_getElem? (i := 64) rfl))) (by decide) (backOf (W := 0) (rm7 l Z a0 hw [] b8 v1 T8.heap n0 zp8 eg8 fl8_0) hZ (hw _ (List.mem_of_getElem? (i := 66) rfl)) (hw _ (List.mem_of_getElem? (i := 23) rfl)) (by decide) (by decide)) qa13 qc13 (g := (mkF m 186 #[.val (.int p1), .val (.int p2), .val (.int p3), .val (.int p4), .val (.int p5), .val (.int v1), .val (.int (0 : Int32)), .val (.int (0 : Int32)), .val (.int (0 : Int32)), .val (.int (0 : Int32)), .val (.int (0 : Int32)), .val (.int (0 : Int32)), .val (.int (0 : Int32)), .val (.ref b3), .val (.ref b8), .unset, .unset, .unset, .unset, .unset, .unset, .unset] [(.ref b8)])) rfl (by rw [hml]; rfl) (Steps.refl _) (argsL := []) (rest := []) (lenOf own_pd4 rfl) rfl (by show 2 * 0 + _ ≤ _; exact Nat.le_of_eq rfl) (hb hby at_186) (fun _ _ => ⟨rfl, rfl, (by decide : 0 + 1 + 2 + 7 + 0 ≤ _), (by decide : 0 + 4 + 24 + 150 + 0 ≤ _)⟩)
    dsimp only [Pt.U, Pt.locs, Pt.cells, Pt.slots] at X13 l13 y13 z13 st13 hQ13
    subst l13 y13 z13
    obtain ⟨rfl, N13q, e13⟩ := hQ13
    have N13 := Fr.app N8 N13q
    refine own_go (fun tgt cont => st13.trans cont) ?_
    show own_Go p e below s (Q0 n0) room_1.cells room_1.slots (T13.setTop (mkF m 189 #[.val (.int p1), .val (.int p2), .val (.int p3), .val (.int p4), .val (.int p5), .val (.int v1), .val (.int (0 : Int32)), .val (.int (0 : Int32)), .val (.int (0 : Int32)), .val (.int (0 : Int32)), .val (.int (0 : Int32)), .val (.int (0 : Int32)), .val (.int (0 : Int32)), .val (.ref b3), .val (.ref b8), .unset, .unset, .unset, .unset, .unset, .unset, .unset] [(.int v1)]))
    refine own_go (B := T13.setTop (mkF m 196 #[.val (.int p1), .val (.int p2), .val (.int p3), .val (.int p4), .val (.int p5), .val (.int v1), .val (.int (0 : Int32)), .val (.int (0 : Int32)), .val (.int (0 : Int32)), .val (.int (0 : Int32)), .val (.int (0 : Int32)), .val (.int (0 : Int32)), .val (.int (0 : Int32)), .val (.ref b3), .val (.ref b8), .unset, .unset, .unset, .unset, .unset, .unset, .unset] [(.ref b8)])) (fun tgt cont => ?_) ?_
    · refine XS.iload X13.here hx rfl (hb hby at_189) rfl ?_
      refine XS.icmpNo X13.here hx rfl (hb hby at_191) rfl (XT.ii_ne_f rfl) ?_
      refine XS.aload X13.here hx rfl (hb hby at_194) rfl rfl ?_
      exact cont
    -- pc 196: Graph.edgeCount
    obtain ⟨cq14, kq14, qa14, qb14, qc14⟩ := isOf hZ e13 eg8
    obtain ⟨_, _, ⟨T14, L14, k14, n14⟩, -, X14, ⟨Lc14, hQ14, l14, y14, z14⟩, st14⟩ := X13.virtualBack hx (y := (⟨"com/example/cyclecut/cyclecut/graph/Graph", "edgeCount", "()I"⟩ : MethodName)) (z := (⟨"com/example/cyclecut/cyclecut/graph/Graph", "edgeCount", "()I"⟩ : MethodName)) hown (mvT hZ (hw _ (List.mem_of_getElem? (i := 67) rfl))) (mvT hZ (hw _ (List.mem_of_getElem? (i := 68) rfl))) (notFace_of_selects (args := #[]) (mvT hZ (hw _ (List.mem_of_getElem? (i := 70) rfl)))) (mvT hZ (hw _ (List.mem_of_getElem? (i := 70) rfl))) (mvT hZ (hw _ (List.mem_of_getElem? (i := 69) rfl))) (by decide) (backOf (W := 0) (rm8 l Z a0 hw [] b8 xe8 w9 T8.heap n0 zp8 eg8 fl8_1 al8_0) hZ (hw _ (List.mem_of_getElem? (i := 71) rfl)) (hw _ (List.mem_of_getElem? (i := 23) rfl)) (by decide) (by decide)) qa14 qc14 (g := (mkF m 196 #[.val (.int p1), .val (.int p2), .val (.int p3), .val (.int p4), .val (.int p5), .val (.int v1), .val (.int (0 : Int32)), .val (.int (0 : Int32)), .val (.int (0 : Int32)), .val (.int (0 : Int32)), .val (.int (0 : Int32)), .val (.int (0 : Int32)), .val (.int (0 : Int32)), .val (.ref b3), .val (.ref b8), .unset, .unset, .unset, .unset, .unset, .unset, .unset] [(.ref b8)])) rfl (by rw [hml]; rfl) (Steps.refl _) (argsL := []) (rest := []) (lenOf own_pd4 rfl) rfl (by show 2 * 0 + _ ≤ _; exact Nat.le_of_eq rfl) (hb hby at_196) (fun _ _ => ⟨rfl, e13, (by decide : 0 + 1 + 2 + 7 + 0 + 0 ≤ _), (by decide : 0 + 4 + 24 + 150 + 0 + 0 ≤ _)⟩)
    dsimp only [Pt.U, Pt.locs, Pt.cells, Pt.slots] at X14 l14 y14 z14 st14 hQ14
    subst l14 y14 z14
    obtain ⟨rfl, N14q, e14⟩ := hQ14
    have N14 := Fr.app N13 N14q
    refine own_go (fun tgt cont => st14.trans cont) ?_
    show own_Go p e below s (Q0 n0) room_1.cells room_1.slots (T14.setTop (mkF m 199 #[.val (.int p1), .val (.int p2), .val (.int p3), .val (.int p4), .val (.int p5), .val (.int v1), .val (.int (0 : Int32)), .val (.int (0 : Int32)), .val (.int (0 : Int32)), .val (.int (0 : Int32)), .val (.int (0 : Int32)), .val (.int (0 : Int32)), .val (.int (0 : Int32)), .val (.ref b3), .val (.ref b8), .unset, .unset, .unset, .unset, .unset, .unset, .unset] [(.int (own_gec_r w9))]))
    generalize hr15 : (own_gec_r w9) = r15
    refine own_go (B := T14.setTop (mkF m 212 #[.val (.int p1), .val (.int p2), .val (.int p3), .val (.int p4), .val (.int p5), .val (.int v1), .val (.int (0 : Int32)), .val (.int (0 : Int32)), .val (.int (0 : Int32)), .val (.int (0 : Int32)), .val (.int (0 : Int32)), .val (.int (0 : Int32)), .val (.int (0 : Int32)), .val (.ref b3), .val (.ref b8), .unset, .unset, .unset, .unset, .unset, .unset, .unset] [(.int (1 : Int32))])) (fun tgt cont => ?_) ?_
    · refine XS.iload X14.here hx rfl (hb hby at_199) rfl ?_
      refine XS.icmpYes X14.here hx rfl (pc0 := 201) (pc' := 206) rfl (hb hby at_201) rfl (XT.ii_eq_t (by rw [← hr15]; exact own_gec_0 ll)) (by decide) (by decide) ?_
      refine XS.iload X14.here hx rfl (hb hby at_206) rfl ?_
      refine XS.ifNo X14.here hx rfl (hb hby at_208) rfl (XT.i0_ne_f hc2) ?_
      refine XT.iconstV X14.here hx rfl (1 : Int32) (hb hby at_211) rfl ?_
      exact cont
    refine own_end X14 (v := some (.int (1 : Int32))) (fun h => by rw [Bd.returns] at h; cases h) hlk ?_ (by decide) (by decide) (fun fs hl => retN X14 hx (t := .boolean) Bd.returns (by simp) (hb hby at_212) hl)
    exact ⟨rfl, N14⟩
  ·
    refine own_go (B := s₁.setTop (mkF m 22 #[.val (.int p1), .val (.int p2), .val (.int p3), .val (.int p4), .val (.int p5), .val (.int v1), .unset, .unset, .unset, .unset, .unset, .unset, .unset, .unset, .unset, .unset, .unset, .unset, .unset, .unset, .unset, .unset] [(.int (((p1.toUInt32 >>> ((3 : Int32) &&& 31).toUInt32).toInt32) &&& (3 : Int32)))])) (fun tgt cont => ?_) ?_
    · refine XS.ifYes X0.here hx rfl (pc0 := 10) (pc' := 17) rfl (hb hby at_10) rfl (XT.i0_ne_t hc2) (by decide) (by decide) ?_
      refine XS.iloadN X0.here hx rfl (hb hby at_17) rfl ?_
      refine XT.iconstV X0.here hx rfl (3 : Int32) (hb hby at_18) rfl ?_
      refine XS.iushr X0.here hx rfl (hb hby at_19) rfl ?_
      refine XT.iconstV X0.here hx rfl (3 : Int32) (hb hby at_20) rfl ?_
      refine XS.iand X0.here hx rfl (hb hby at_21) rfl ?_
      exact cont
    generalize hv16 : (((p1.toUInt32 >>> ((3 : Int32) &&& 31).toUInt32).toInt32) &&& (3 : Int32)) = v16
    refine own_go (B := s₁.setTop (mkF m 24 #[.val (.int p1), .val (.int p2), .val (.int p3), .val (.int p4), .val (.int p5), .val (.int v1), .val (.int v16), .unset, .unset, .unset, .unset, .unset, .unset, .unset, .unset, .unset, .unset, .unset, .unset, .unset, .unset, .unset] [])) (fun tgt cont => ?_) ?_
    · refine XS.istore X0.here hx rfl (hb hby at_22) rfl (l' := #[.val (.int p1), .val (.int p2), .val (.int p3), .val (.int p4), .val (.int p5), .val (.int v1), .val (.int v16), .unset, .unset, .unset, .unset, .unset, .unset, .unset, .unset, .unset, .unset, .unset, .unset, .unset, .unset, .unset]) rfl ?_
      exact cont
    have m1 := own_n5p n1 hc2
    have k4 : v16 = (0 : Int32) ∨ v16 = (1 : Int32) ∨ v16 = (2 : Int32) ∨ v16 = (3 : Int32) := by rw [← hv16]; exact own_k4 _
    rcases k4 with rfl | rfl | rfl | rfl
    ·
      refine own_go (B := s₁.setTop (mkF m 39 #[.val (.int p1), .val (.int p2), .val (.int p3), .val (.int p4), .val (.int p5), .val (.int v1), .val (.int (0 : Int32)), .val (.int (0 : Int32)), .val (.int (0 : Int32)), .val (.int (0 : Int32)), .val (.int (0 : Int32)), .val (.int (0 : Int32)), .unset, .unset, .unset, .unset, .unset, .unset, .unset, .unset, .unset, .unset] [])) (fun tgt cont => ?_) ?_
      · refine XT.iconstV X0.here hx rfl (0 : Int32) (hb hby at_24) rfl ?_
        refine XS.istore X0.here hx rfl (hb hby at_25) rfl (l' := #[.val (.int p1), .val (.int p2), .val (.int p3), .val (.int p4), .val (.int p5), .val (.int v1), .val (.int (0 : Int32)), .val (.int (0 : Int32)), .unset, .unset, .unset, .unset, .unset, .unset, .unset, .unset, .unset, .unset, .unset, .unset, .unset, .unset]) rfl ?_
        refine XT.iconstV X0.here hx rfl (0 : Int32) (hb hby at_27) rfl ?_
        refine XS.istore X0.here hx rfl (hb hby at_28) rfl (l' := #[.val (.int p1), .val (.int p2), .val (.int p3), .val (.int p4), .val (.int p5), .val (.int v1), .val (.int (0 : Int32)), .val (.int (0 : Int32)), .val (.int (0 : Int32)), .unset, .unset, .unset, .unset, .unset, .unset, .unset, .unset, .unset, .unset, .unset, .unset, .unset]) rfl ?_
        refine XT.iconstV X0.here hx rfl (0 : Int32) (hb hby at_30) rfl ?_
        refine XS.istore X0.here hx rfl (hb hby at_31) rfl (l' := #[.val (.int p1), .val (.int p2), .val (.int p3), .val (.int p4), .val (.int p5), .val (.int v1), .val (.int (0 : Int32)), .val (.int (0 : Int32)), .val (.int (0 : Int32)), .val (.int (0 : Int32)), .unset, .unset, .unset, .unset, .unset, .unset, .unset, .unset, .unset, .unset, .unset, .unset]) rfl ?_
        refine XT.iconstV X0.here hx rfl (0 : Int32) (hb hby at_33) rfl ?_
        refine XS.istore X0.here hx rfl (hb hby at_34) rfl (l' := #[.val (.int p1), .val (.int p2), .val (.int p3), .val (.int p4), .val (.int p5), .val (.int v1), .val (.int (0 : Int32)), .val (.int (0 : Int32)), .val (.int (0 : Int32)), .val (.int (0 : Int32)), .val (.int (0 : Int32)), .unset, .unset, .unset, .unset, .unset, .unset, .unset, .unset, .unset, .unset, .unset]) rfl ?_
        refine XT.iconstV X0.here hx rfl (0 : Int32) (hb hby at_36) rfl ?_
        refine XS.istore X0.here hx rfl (hb hby at_37) rfl (l' := #[.val (.int p1), .val (.int p2), .val (.int p3), .val (.int p4), .val (.int p5), .val (.int v1), .val (.int (0 : Int32)), .val (.int (0 : Int32)), .val (.int (0 : Int32)), .val (.int (0 : Int32)), .val (.int (0 : Int32)), .val (.int (0 : Int32)), .unset, .unset, .unset, .unset, .unset, .unset, .unset, .unset, .unset, .unset]) rfl ?_
        exact cont
      refine own_go (B := s₁.setTop (mkF m 55 #[.val (.int p1), .val (.int p2), .val (.int p3), .val (.int p4), .val (.int p5), .val (.int v1), .val (.int (0 : Int32)), .val (.int (0 : Int32)), .val (.int (0 : Int32)), .val (.int (0 : Int32)), .val (.int (0 : Int32)), .val (.int (0 : Int32)), .val (.int (0 : Int32)), .unset, .unset, .unset, .unset, .unset, .unset, .unset, .unset, .unset] [(.int ((p2 &&& (255 : Int32)) % v1))])) (fun tgt cont => ?_) ?_
      · refine XT.iconstV X0.here hx rfl (0 : Int32) (hb hby at_39) rfl ?_
        refine XS.istore X0.here hx rfl (hb hby at_40) rfl (l' := #[.val (.int p1), .val (.int p2), .val (.int p3), .val (.int p4), .val (.int p5), .val (.int v1), .val (.int (0 : Int32)), .val (.int (0 : Int32)), .val (.int (0 : Int32)), .val (.int (0 : Int32)), .val (.int (0 : Int32)), .val (.int (0 : Int32)), .val (.int (0 : Int32)), .unset, .unset, .unset, .unset, .unset, .unset, .unset, .unset, .unset]) rfl ?_
        refine XS.iload X0.here hx rfl (hb hby at_42) rfl ?_
        refine XS.ifNo X0.here hx rfl (hb hby at_44) rfl (XT.i0_le_f (own_zt m1)) ?_
        refine XS.iloadN X0.here hx rfl (hb hby at_47) rfl ?_
        refine XT.sipushV X0.here hx rfl (255 : Int32) (hb hby at_48) rfl ?_
        refine XS.iand X0.here hx rfl (hb hby at_51) rfl ?_
        refine XS.iload X0.here hx rfl (hb hby at_52) rfl ?_
        refine iremM X0 hx rfl (hb hby at_54) rfl (own_n3c m1) ?_
        exact cont
      generalize hv17 : ((p2 &&& (255 : Int32)) % v1) = v17
      refine own_go (B := s₁.setTop (mkF m 68 #[.val (.int p1), .val (.int p2), .val (.int p3), .val (.int p4), .val (.int p5), .val (.int v1), .val (.int (0 : Int32)), .val (.int v17), .val (.int (0 : Int32)), .val (.int (0 : Int32)), .val (.int (0 : Int32)), .val (.int (0 : Int32)), .val (.int (0 : Int32)), .unset, .unset, .unset, .unset, .unset, .unset, .unset, .unset, .unset] [(.int ((((p2.toUInt32 >>> ((8 : Int32) &&& 31).toUInt32).toInt32) &&& (255 : Int32)) % v1))])) (fun tgt cont => ?_) ?_
      · refine XS.istore X0.here hx rfl (hb hby at_55) rfl (l' := #[.val (.int p1), .val (.int p2), .val (.int p3), .val (.int p4), .val (.int p5), .val (.int v1), .val (.int (0 : Int32)), .val (.int v17), .val (.int (0 : Int32)), .val (.int (0 : Int32)), .val (.int (0 : Int32)), .val (.int (0 : Int32)), .val (.int (0 : Int32)), .unset, .unset, .unset, .unset, .unset, .unset, .unset, .unset, .unset]) rfl ?_
        refine XS.iloadN X0.here hx rfl (hb hby at_57) rfl ?_
        refine XT.bipushV X0.here hx rfl (8 : Int32) (hb hby at_58) rfl ?_
        refine XS.iushr X0.here hx rfl (hb hby at_60) rfl ?_
        refine XT.sipushV X0.here hx rfl (255 : Int32) (hb hby at_61) rfl ?_
        refine XS.iand X0.here hx rfl (hb hby at_64) rfl ?_
        refine XS.iload X0.here hx rfl (hb hby at_65) rfl ?_
        refine iremM X0 hx rfl (hb hby at_67) rfl (own_n3c m1) ?_
        exact cont
      generalize hv18 : ((((p2.toUInt32 >>> ((8 : Int32) &&& 31).toUInt32).toInt32) &&& (255 : Int32)) % v1) = v18
      refine own_go (B := s₁.setTop (mkF m 81 #[.val (.int p1), .val (.int p2), .val (.int p3), .val (.int p4), .val (.int p5), .val (.int v1), .val (.int (0 : Int32)), .val (.int v17), .val (.int v18), .val (.int (0 : Int32)), .val (.int (0 : Int32)), .val (.int (0 : Int32)), .val (.int (0 : Int32)), .unset, .unset, .unset, .unset, .unset, .unset, .unset, .unset, .unset] [(.int ((((p2.toUInt32 >>> ((16 : Int32) &&& 31).toUInt32).toInt32) &&& (255 : Int32)) % v1))])) (fun tgt cont => ?_) ?_
      · refine XS.istore X0.here hx rfl (hb hby at_68) rfl (l' := #[.val (.int p1), .val (.int p2), .val (.int p3), .val (.int p4), .val (.int p5), .val (.int v1), .val (.int (0 : Int32)), .val (.int v17), .val (.int v18), .val (.int (0 : Int32)), .val (.int (0 : Int32)), .val (.int (0 : Int32)), .val (.int (0 : Int32)), .unset, .unset, .unset, .unset, .unset, .unset, .unset, .unset, .unset]) rfl ?_
        refine XS.iloadN X0.here hx rfl (hb hby at_70) rfl ?_
        refine XT.bipushV X0.here hx rfl (16 : Int32) (hb hby at_71) rfl ?_
        refine XS.iushr X0.here hx rfl (hb hby at_73) rfl ?_
        refine XT.sipushV X0.here hx rfl (255 : Int32) (hb hby at_74) rfl ?_
        refine XS.iand X0.here hx rfl (hb hby at_77) rfl ?_
        refine XS.iload X0.here hx rfl (hb hby at_78) rfl ?_
        refine iremM X0 hx rfl (hb hby at_80) rfl (own_n3c m1) ?_
        exact cont
      generalize hv19 : ((((p2.toUInt32 >>> ((16 : Int32) &&& 31).toUInt32).toInt32) &&& (255 : Int32)) % v1) = v19
      refine own_go (B := s₁.setTop (mkF m 94 #[.val (.int p1), .val (.int p2), .val (.int p3), .val (.int p4), .val (.int p5), .val (.int v1), .val (.int (0 : Int32)), .val (.int v17), .val (.int v18), .val (.int v19), .val (.int (0 : Int32)), .val (.int (0 : Int32)), .val (.int (0 : Int32)), .unset, .unset, .unset, .unset, .unset, .unset, .unset, .unset, .unset] [(.int ((((p2.toUInt32 >>> ((24 : Int32) &&& 31).toUInt32).toInt32) &&& (255 : Int32)) % v1))])) (fun tgt cont => ?_) ?_
      · refine XS.istore X0.here hx rfl (hb hby at_81) rfl (l' := #[.val (.int p1), .val (.int p2), .val (.int p3), .val (.int p4), .val (.int p5), .val (.int v1), .val (.int (0 : Int32)), .val (.int v17), .val (.int v18), .val (.int v19), .val (.int (0 : Int32)), .val (.int (0 : Int32)), .val (.int (0 : Int32)), .unset, .unset, .unset, .unset, .unset, .unset, .unset, .unset, .unset]) rfl ?_
        refine XS.iloadN X0.here hx rfl (hb hby at_83) rfl ?_
        refine XT.bipushV X0.here hx rfl (24 : Int32) (hb hby at_84) rfl ?_
        refine XS.iushr X0.here hx rfl (hb hby at_86) rfl ?_
        refine XT.sipushV X0.here hx rfl (255 : Int32) (hb hby at_87) rfl ?_
        refine XS.iand X0.here hx rfl (hb hby at_90) rfl ?_
        refine XS.iload X0.here hx rfl (hb hby at_91) rfl ?_
        refine iremM X0 hx rfl (hb hby at_93) rfl (own_n3c m1) ?_
        exact cont
      generalize hv20 : ((((p2.toUInt32 >>> ((24 : Int32) &&& 31).toUInt32).toInt32) &&& (255 : Int32)) % v1) = v20
      refine own_go (B := s₁.setTop (mkF m 104 #[.val (.int p1), .val (.int p2), .val (.int p3), .val (.int p4), .val (.int p5), .val (.int v1), .val (.int (0 : Int32)), .val (.int v17), .val (.int v18), .val (.int v19), .val (.int v20), .val (.int (0 : Int32)), .val (.int (0 : Int32)), .unset, .unset, .unset, .unset, .unset, .unset, .unset, .unset, .unset] [(.int ((p3 &&& (255 : Int32)) % v1))])) (fun tgt cont => ?_) ?_
      · refine XS.istore X0.here hx rfl (hb hby at_94) rfl (l' := #[.val (.int p1), .val (.int p2), .val (.int p3), .val (.int p4), .val (.int p5), .val (.int v1), .val (.int (0 : Int32)), .val (.int v17), .val (.int v18), .val (.int v19), .val (.int v20), .val (.int (0 : Int32)), .val (.int (0 : Int32)), .unset, .unset, .unset, .unset, .unset, .unset, .unset, .unset, .unset]) rfl ?_
        refine XS.iloadN X0.here hx rfl (hb hby at_96) rfl ?_
        refine XT.sipushV X0.here hx rfl (255 : Int32) (hb hby at_97) rfl ?_
        refine XS.iand X0.here hx rfl (hb hby at_100) rfl ?_
        refine XS.iload X0.here hx rfl (hb hby at_101) rfl ?_
        refine iremM X0 hx rfl (hb hby at_103) rfl (own_n3c m1) ?_
        exact cont
      generalize hv21 : ((p3 &&& (255 : Int32)) % v1) = v21
      refine own_go (B := s₁.setTop (mkF m 117 #[.val (.int p1), .val (.int p2), .val (.int p3), .val (.int p4), .val (.int p5), .val (.int v1), .val (.int (0 : Int32)), .val (.int v17), .val (.int v18), .val (.int v19), .val (.int v20), .val (.int v21), .val (.int (0 : Int32)), .unset, .unset, .unset, .unset, .unset, .unset, .unset, .unset, .unset] [(.int ((((p3.toUInt32 >>> ((8 : Int32) &&& 31).toUInt32).toInt32) &&& (255 : Int32)) % v1))])) (fun tgt cont => ?_) ?_
      · refine XS.istore X0.here hx rfl (hb hby at_104) rfl (l' := #[.val (.int p1), .val (.int p2), .val (.int p3), .val (.int p4), .val (.int p5), .val (.int v1), .val (.int (0 : Int32)), .val (.int v17), .val (.int v18), .val (.int v19), .val (.int v20), .val (.int v21), .val (.int (0 : Int32)), .unset, .unset, .unset, .unset, .unset, .unset, .unset, .unset, .unset]) rfl ?_
        refine XS.iloadN X0.here hx rfl (hb hby at_106) rfl ?_
        refine XT.bipushV X0.here hx rfl (8 : Int32) (hb hby at_107) rfl ?_
        refine XS.iushr X0.here hx rfl (hb hby at_109) rfl ?_
        refine XT.sipushV X0.here hx rfl (255 : Int32) (hb hby at_110) rfl ?_
        refine XS.iand X0.here hx rfl (hb hby at_113) rfl ?_
        refine XS.iload X0.here hx rfl (hb hby at_114) rfl ?_
        refine iremM X0 hx rfl (hb hby at_116) rfl (own_n3c m1) ?_
        exact cont
      generalize hv22 : ((((p3.toUInt32 >>> ((8 : Int32) &&& 31).toUInt32).toInt32) &&& (255 : Int32)) % v1) = v22
      refine own_go (B := s₁.setTop (mkF m 119 #[.val (.int p1), .val (.int p2), .val (.int p3), .val (.int p4), .val (.int p5), .val (.int v1), .val (.int (0 : Int32)), .val (.int v17), .val (.int v18), .val (.int v19), .val (.int v20), .val (.int v21), .val (.int v22), .unset, .unset, .unset, .unset, .unset, .unset, .unset, .unset, .unset] [])) (fun tgt cont => ?_) ?_
      · refine XS.istore X0.here hx rfl (hb hby at_117) rfl (l' := #[.val (.int p1), .val (.int p2), .val (.int p3), .val (.int p4), .val (.int p5), .val (.int v1), .val (.int (0 : Int32)), .val (.int v17), .val (.int v18), .val (.int v19), .val (.int v20), .val (.int v21), .val (.int v22), .unset, .unset, .unset, .unset, .unset, .unset, .unset, .unset, .unset]) rfl ?_
        exact cont
      have B_v17 : own_be v17 v1 := by rw [← hv17]; exact own_b255 m1
      have B_v18 : own_be v18 v1 := by rw [← hv18]; exact own_b255 m1
      have B_v19 : own_be v19 v1 := by rw [← hv19]; exact own_b255 m1
      have B_v20 : own_be v20 v1 := by rw [← hv20]; exact own_b255 m1
      have B_v21 : own_be v21 v1 := by rw [← hv21]; exact own_b255 m1
      have B_v22 : own_be v22 v1 := by rw [← hv22]; exact own_b255 m1
      obtain ⟨T23, h23, X23, e23, E23, A23, D23, -, st23⟩ := newO X0 hx hZ hown (hw _ (List.mem_of_getElem? (i := 0) rfl)) (hw _ (List.mem_of_getElem? (i := 1) rfl)) (hw _ (List.mem_of_getElem? (i := 2) rfl)) e0 (g := (mkF m 119 #[.val (.int p1), .val (.int p2), .val (.int p3), .val (.int p4), .val (.int p5), .val (.int v1), .val (.int (0 : Int32)), .val (.int v17), .val (.int v18), .val (.int v19), .val (.int v20), .val (.int v21), .val (.int v22), .unset, .unset, .unset, .unset, .unset, .unset, .unset, .unset, .unset] [])) rfl (hb hby at_119) (by decide) (by decide)
      obtain ⟨b23, g23⟩ : ∃ z, z = h0.size := ⟨_, rfl⟩
      rw [← g23] at A23 D23 st23
      have g_b23 : n0 ≤ b23 := Nat.le_trans Z0 (Nat.le_of_eq g23.symm)
      have sz_b23 : h0.size ≤ b23 := Nat.le_trans (Keep.refl h0 []).1 (Nat.le_of_eq g23.symm)
      have kk23 : Keep h0 h23 [] := (Keep.refl h0 []).ext E23
      have zp23 : n0 ≤ h23.size := Nat.le_trans Z0 kk23.1
      have F_ends_b23 : Fld Z h23 b23 "com/example/cyclecut/cyclecut/graph/Graph$Builder" "ends" "[I" .null := D23 (Or.inl (hw _ (List.mem_of_getElem? (i := 11) rfl))) (ty := (.array .int)) (by decide)
      have F_vertexCount_b23 : Fld Z h23 b23 "com/example/cyclecut/cyclecut/graph/Graph$Builder" "vertexCount" "I" (.int (0 : Int32)) := D23 (Or.inr (hw _ (List.mem_of_getElem? (i := 13) rfl))) (ty := .int) (by decide)
      have F_degree_b23 : Fld Z h23 b23 "com/example/cyclecut/cyclecut/graph/Graph$Builder" "degree" "[I" .null := D23 (Or.inr (hw _ (List.mem_of_getElem? (i := 15) rfl))) (ty := (.array .int)) (by decide)
      have F_edgeCount_b23 : Fld Z h23 b23 "com/example/cyclecut/cyclecut/graph/Graph$Builder" "edgeCount" "I" (.int (0 : Int32)) := D23 (Or.inl (hw _ (List.mem_of_getElem? (i := 25) rfl))) (ty := .int) (by decide)
      refine own_go (fun tgt cont => st23 tgt cont) ?_
      show own_Go p e below s (Q0 n0) room_1.cells room_1.slots (T23.setTop (mkF m 122 #[.val (.int p1), .val (.int p2), .val (.int p3), .val (.int p4), .val (.int p5), .val (.int v1), .val (.int (0 : Int32)), .val (.int v17), .val (.int v18), .val (.int v19), .val (.int v20), .val (.int v21), .val (.int v22), .unset, .unset, .unset, .unset, .unset, .unset, .unset, .unset, .unset] [(.ref b23)]))
      refine own_go (B := T23.setTop (mkF m 125 #[.val (.int p1), .val (.int p2), .val (.int p3), .val (.int p4), .val (.int p5), .val (.int v1), .val (.int (0 : Int32)), .val (.int v17), .val (.int v18), .val (.int v19), .val (.int v20), .val (.int v21), .val (.int v22), .unset, .unset, .unset, .unset, .unset, .unset, .unset, .unset, .unset] [(.int v1), (.ref b23), (.ref b23)])) (fun tgt cont => ?_) ?_
      · refine XS.dup X23.here hx rfl (hb hby at_122) rfl rfl ?_
        refine XS.iload X23.here hx rfl (hb hby at_123) rfl ?_
        exact cont
      -- pc 125: Graph$Builder.<init>
      obtain ⟨_, _, ⟨T24, L24, k24, n24⟩, -, X24, ⟨Lc24, hQ24, l24, y24, z24⟩, st24⟩ := X23.specialBack hx (y := (⟨"com/example/cyclecut/cyclecut/graph/Graph$Builder", "<init>", "(I)V"⟩ : MethodName)) rfl hown (mvT hZ (hw _ (List.mem_of_getElem? (i := 3) rfl))) (mvT hZ (hw _ (List.mem_of_getElem? (i := 4) rfl))) (mvT hZ (hw _ (List.mem_of_getElem? (i := 5) rfl))) (by decide) (backOf (W := 1) (rm1 l Z a0 hw [] b23 v1 h23 n0 zp23 A23 F_vertexCount_b23 F_degree_b23 F_ends_b23 F_edgeCount_b23 g_b23 n2 n3) hZ (hw _ (List.mem_of_getElem? (i := 5) rfl)) (hw _ (List.mem_of_getElem? (i := 2) rfl)) (by decide) (by decide)) (g := (mkF m 125 #[.val (.int p1), .val (.int p2), .val (.int p3), .val (.int p4), .val (.int p5), .val (.int v1), .val (.int (0 : Int32)), .val (.int v17), .val (.int v18), .val (.int v19), .val (.int v20), .val (.int v21), .val (.int v22), .unset, .unset, .unset, .unset, .unset, .unset, .unset, .unset, .unset] [(.int v1), (.ref b23), (.ref b23)])) rfl (by rw [hml]; rfl) (Steps.refl _) (a := b23) (argsL := [(.int v1)]) (rest := [(.ref b23)]) (lenOf own_pd6 rfl) rfl (by show 2 * 0 + _ ≤ _; exact Nat.le_of_eq rfl) (hb hby at_125) (fun _ _ => ⟨rfl, e23, (by decide : 0 + 1 + 2 ≤ _), (by decide : 0 + 4 + 24 ≤ _)⟩)
      dsimp only [Pt.U, Pt.locs, Pt.cells, Pt.slots] at X24 l24 y24 z24 st24 hQ24
      subst l24 y24 z24
      obtain ⟨b24_0, b24_1, rfl, N24q, K24, ex24_0, fa24_0, fa24_1, fa24_2, fa24_3, gb24_0, ab24_0, eb24_0, gb24_1, ab24_1, eb24_1, ne_b24_0_b24_1⟩ := hQ24
      have N24 := Fr.app N0 N24q
      have g_b24_0 : n0 ≤ b24_0 := Nat.le_trans zp23 gb24_0
      have sz_b24_0 : h0.size ≤ b24_0 := Nat.le_trans kk23.1 gb24_0
      have ne_b23_b24_0 : b23 ≠ b24_0 := Nat.ne_of_lt (Nat.lt_of_lt_of_le A23.lt gb24_0)
      have g_b24_1 : n0 ≤ b24_1 := Nat.le_trans zp23 gb24_1
      have sz_b24_1 : h0.size ≤ b24_1 := Nat.le_trans kk23.1 gb24_1
      have ne_b23_b24_1 : b23 ≠ b24_1 := Nat.ne_of_lt (Nat.lt_of_lt_of_le A23.lt gb24_1)
      have kk24 : Keep h0 T24.heap [] := kk23.trans K24 (allS (Or.inr sz_b23) all0)
      have zp24 : n0 ≤ T24.heap.size := Nat.le_trans Z0 kk24.1
      generalize hw25 : (own_bi_degree v1) = w25 at ab24_0
      generalize hw26 : own_bi_ends = w26 at ab24_1
      refine own_go (fun tgt cont => st24.trans cont) ?_
      show own_Go p e below s (Q0 n0) room_1.cells room_1.slots (T24.setTop (mkF m 128 #[.val (.int p1), .val (.int p2), .val (.int p3), .val (.int p4), .val (.int p5), .val (.int v1), .val (.int (0 : Int32)), .val (.int v17), .val (.int v18), .val (.int v19), .val (.int v20), .val (.int v21), .val (.int v22), .unset, .unset, .unset, .unset, .unset, .unset, .unset, .unset, .unset] [(.ref b23)]))
      have DG0 : own_DG [] w25 v1.toNatClampNeg := by rw [← hw25]; exact own_DG0 _
      have al27 : own_IA Z T24.heap b24_1 [(0 : Int32), (0 : Int32), (0 : Int32), (0 : Int32), (0 : Int32), (0 : Int32), (0 : Int32), (0 : Int32), (0 : Int32), (0 : Int32), (0 : Int32), (0 : Int32), (0 : Int32), (0 : Int32), (0 : Int32), (0 : Int32)] := ab24_1.cong (hw26.symm.trans rfl)
      refine own_go (B := T24.setTop (mkF m 179 #[.val (.int p1), .val (.int p2), .val (.int p3), .val (.int p4), .val (.int p5), .val (.int v1), .val (.int (0 : Int32)), .val (.int v17), .val (.int v18), .val (.int v19), .val (.int v20), .val (.int v21), .val (.int v22), .val (.ref b23), .unset, .unset, .unset, .unset, .unset, .unset, .unset, .unset] [(.ref b23)])) (fun tgt cont => ?_) ?_
      · refine XS.astore X24.here hx rfl (hb hby at_128) rfl rfl (l' := #[.val (.int p1), .val (.int p2), .val (.int p3), .val (.int p4), .val (.int p5), .val (.int v1), .val (.int (0 : Int32)), .val (.int v17), .val (.int v18), .val (.int v19), .val (.int v20), .val (.int v21), .val (.int v22), .val (.ref b23), .unset, .unset, .unset, .unset, .unset, .unset, .unset, .unset]) rfl ?_
        refine XS.iload X24.here hx rfl (hb hby at_130) rfl ?_
        refine XS.ifYes X24.here hx rfl (pc0 := 132) (pc' := 145) rfl (hb hby at_132) rfl (XT.i0_le_t (by first | decide | exact (show ¬ (0 < (0 : Int32)) from by decide))) (by decide) (by decide) ?_
        refine XS.iload X24.here hx rfl (hb hby at_145) rfl ?_
        refine XT.iconstV X24.here hx rfl (1 : Int32) (hb hby at_147) rfl ?_
        refine XS.icmpYes X24.here hx rfl (pc0 := 148) (pc' := 161) rfl (hb hby at_148) rfl (XT.ii_le_t (by first | decide | exact (show ¬ ((1 : Int32) < (0 : Int32)) from by decide))) (by decide) (by decide) ?_
        refine XS.iload X24.here hx rfl (hb hby at_161) rfl ?_
        refine XT.iconstV X24.here hx rfl (2 : Int32) (hb hby at_163) rfl ?_
        refine XS.icmpYes X24.here hx rfl (pc0 := 164) (pc' := 177) rfl (hb hby at_164) rfl (XT.ii_le_t (by first | decide | exact (show ¬ ((2 : Int32) < (0 : Int32)) from by decide))) (by decide) (by decide) ?_
        refine XS.aload X24.here hx rfl (hb hby at_177) rfl rfl ?_
        exact cont
      -- pc 179: Graph$Builder.build
      obtain ⟨cq28, kq28, qa28, qb28, qc28⟩ := isOf hZ rfl ex24_0
      obtain ⟨_, _, ⟨T28, L28, k28, n28⟩, -, X28, ⟨Lc28, hQ28, l28, y28, z28⟩, st28⟩ := X24.virtualBack hx (y := (⟨"com/example/cyclecut/cyclecut/graph/Graph$Builder", "build", "()Lcom/example/cyclecut/cyclecut/graph/Graph;"⟩ : MethodName)) (z := (⟨"com/example/cyclecut/cyclecut/graph/Graph$Builder", "build", "()Lcom/example/cyclecut/cyclecut/graph/Graph;"⟩ : MethodName)) hown (mvT hZ (hw _ (List.mem_of_getElem? (i := 16) rfl))) (mvT hZ (hw _ (List.mem_of_getElem? (i := 17) rfl))) (notFace_of_selects (args := #[]) (mvT hZ (hw _ (List.mem_of_getElem? (i := 19) rfl)))) (mvT hZ (hw _ (List.mem_of_getElem? (i := 19) rfl))) (mvT hZ (hw _ (List.mem_of_getElem? (i := 18) rfl))) (by decide) (backOf (W := 0) (rm3 l Z a0 hw [] b23 v1 b24_0 b24_1 (0 : Int32) w25 [(0 : Int32), (0 : Int32), (0 : Int32), (0 : Int32), (0 : Int32), (0 : Int32), (0 : Int32), (0 : Int32), (0 : Int32), (0 : Int32), (0 : Int32), (0 : Int32), (0 : Int32), (0 : Int32), (0 : Int32), (0 : Int32)] T24.heap n0 zp24 ex24_0 fa24_0 fa24_1 fa24_2 fa24_3 ab24_0 eb24_0 al27 (own_hd_0 rfl) (by decide) (by decide) n2 n3 (own_hle_0 ..) DG0.1 (own_gb_0 n1 DG0)) hZ (hw _ (List.mem_of_getElem? (i := 20) rfl)) (hw _ (List.mem_of_getElem? (i := 2) rfl)) (by decide) (by decide)) qa28 qc28 (g := (mkF m 179 #[.val (.int p1), .val (.int p2), .val (.int p3), .val (.int p4), .val (.int p5), .val (.int v1), .val (.int (0 : Int32)), .val (.int v17), .val (.int v18), .val (.int v19), .val (.int v20), .val (.int v21), .val (.int v22), .val (.ref b23), .unset, .unset, .unset, .unset, .unset, .unset, .unset, .unset] [(.ref b23)])) rfl (by rw [hml]; rfl) (Steps.refl _) (argsL := []) (rest := []) (lenOf own_pd7 rfl) rfl (by show 2 * 0 + _ ≤ _; exact Nat.le_of_eq rfl) (hb hby at_179) (fun _ _ => ⟨rfl, rfl, (by decide : 0 + 1 + 2 + 7 ≤ _), (by decide : 0 + 4 + 24 + 150 ≤ _)⟩)
      dsimp only [Pt.U, Pt.locs, Pt.cells, Pt.slots] at X28 l28 y28 z28 st28 hQ28
      subst l28 y28 z28
      obtain ⟨b28, xe28, xf28, xn28, xs28, rfl, N28q, K28, gb28, eg28, fl28_0, fl28_1, fl28_2, fl28_3, fl28_4, al28_0, al28_1, al28_2, al28_3⟩ := hQ28
      have N28 := Fr.app N24 N28q
      have kk28 : Keep h0 T28.heap [] := kk24.trans K28 all0
      have zp28 : n0 ≤ T28.heap.size := Nat.le_trans Z0 kk28.1
      generalize hw29 : (own_cof_l ((2 : Int32) * (0 : Int32)) [(0 : Int32), (0 : Int32), (0 : Int32), (0 : Int32), (0 : Int32), (0 : Int32), (0 : Int32), (0 : Int32), (0 : Int32), (0 : Int32), (0 : Int32), (0 : Int32), (0 : Int32), (0 : Int32), (0 : Int32), (0 : Int32)]) = w29 at al28_0
      generalize hw30 : (own_fsL w25 v1.toNatClampNeg (List.replicate (v1.toNatClampNeg + 1) 0)) = w30 at al28_1
      generalize hw31 : (own_l1 (own_cof_l ((2 : Int32) * (0 : Int32)) [(0 : Int32), (0 : Int32), (0 : Int32), (0 : Int32), (0 : Int32), (0 : Int32), (0 : Int32), (0 : Int32), (0 : Int32), (0 : Int32), (0 : Int32), (0 : Int32), (0 : Int32), (0 : Int32), (0 : Int32), (0 : Int32)]) (own_cof_l v1 (own_fsL w25 v1.toNatClampNeg (List.replicate (v1.toNatClampNeg + 1) 0))) (List.replicate (own_cof_l ((2 : Int32) * (0 : Int32)) [(0 : Int32), (0 : Int32), (0 : Int32), (0 : Int32), (0 : Int32), (0 : Int32), (0 : Int32), (0 : Int32), (0 : Int32), (0 : Int32), (0 : Int32), (0 : Int32), (0 : Int32), (0 : Int32), (0 : Int32), (0 : Int32)]).length 0) (own_cof_l ((2 : Int32) * (0 : Int32)) [(0 : Int32), (0 : Int32), (0 : Int32), (0 : Int32), (0 : Int32), (0 : Int32), (0 : Int32), (0 : Int32), (0 : Int32), (0 : Int32), (0 : Int32), (0 : Int32), (0 : Int32), (0 : Int32), (0 : Int32), (0 : Int32)]).length) = w31 at al28_2
      generalize hw32 : (own_l2 (own_cof_l ((2 : Int32) * (0 : Int32)) [(0 : Int32), (0 : Int32), (0 : Int32), (0 : Int32), (0 : Int32), (0 : Int32), (0 : Int32), (0 : Int32), (0 : Int32), (0 : Int32), (0 : Int32), (0 : Int32), (0 : Int32), (0 : Int32), (0 : Int32), (0 : Int32)]) (own_cof_l v1 (own_fsL w25 v1.toNatClampNeg (List.replicate (v1.toNatClampNeg + 1) 0))) (List.replicate (own_cof_l ((2 : Int32) * (0 : Int32)) [(0 : Int32), (0 : Int32), (0 : Int32), (0 : Int32), (0 : Int32), (0 : Int32), (0 : Int32), (0 : Int32), (0 : Int32), (0 : Int32), (0 : Int32), (0 : Int32), (0 : Int32), (0 : Int32), (0 : Int32), (0 : Int32)]).length 0) (own_cof_l ((2 : Int32) * (0 : Int32)) [(0 : Int32), (0 : Int32), (0 : Int32), (0 : Int32), (0 : Int32), (0 : Int32), (0 : Int32), (0 : Int32), (0 : Int32), (0 : Int32), (0 : Int32), (0 : Int32), (0 : Int32), (0 : Int32), (0 : Int32), (0 : Int32)]).length) = w32 at al28_3
      refine own_go (fun tgt cont => st28.trans cont) ?_
      show own_Go p e below s (Q0 n0) room_1.cells room_1.slots (T28.setTop (mkF m 182 #[.val (.int p1), .val (.int p2), .val (.int p3), .val (.int p4), .val (.int p5), .val (.int v1), .val (.int (0 : Int32)), .val (.int v17), .val (.int v18), .val (.int v19), .val (.int v20), .val (.int v21), .val (.int v22), .val (.ref b23), .unset, .unset, .unset, .unset, .unset, .unset, .unset, .unset] [(.ref b28)]))
      refine own_go (B := T28.setTop (mkF m 184 #[.val (.int p1), .val (.int p2), .val (.int p3), .val (.int p4), .val (.int p5), .val (.int v1), .val (.int (0 : Int32)), .val (.int v17), .val (.int v18), .val (.int v19), .val (.int v20), .val (.int v21), .val (.int v22), .val (.ref b23), .val (.ref b28), .unset, .unset, .unset, .unset, .unset, .unset, .unset] [])) (fun tgt cont => ?_) ?_
      · refine XS.astore X28.here hx rfl (hb hby at_182) rfl rfl (l' := #[.val (.int p1), .val (.int p2), .val (.int p3), .val (.int p4), .val (.int p5), .val (.int v1), .val (.int (0 : Int32)), .val (.int v17), .val (.int v18), .val (.int v19), .val (.int v20), .val (.int v21), .val (.int v22), .val (.ref b23), .val (.ref b28), .unset, .unset, .unset, .unset, .unset, .unset, .unset]) rfl ?_
        exact cont
      have le : w29 = [] := hw29.symm.trans (own_LE_0 ..)
      have ll : w29.length = 0 := by rw [le]; rfl
      have GS : own_GS [] v1.toNatClampNeg w30 w31 w32 := own_GSmk n1 DG0 (Nat.le_of_ble_eq_true rfl) (own_LE_0 ..) hw30 hw31 hw32
      refine own_go (B := T28.setTop (mkF m 186 #[.val (.int p1), .val (.int p2), .val (.int p3), .val (.int p4), .val (.int p5), .val (.int v1), .val (.int (0 : Int32)), .val (.int v17), .val (.int v18), .val (.int v19), .val (.int v20), .val (.int v21), .val (.int v22), .val (.ref b23), .val (.ref b28), .unset, .unset, .unset, .unset, .unset, .unset, .unset] [(.ref b28)])) (fun tgt cont => ?_) ?_
      · refine XS.aload X28.here hx rfl (hb hby at_184) rfl rfl ?_
        exact cont
      -- pc 186: Graph.vertexCount
      obtain ⟨cq33, kq33, qa33, qb33, qc33⟩ := isOf hZ rfl eg28
      obtain ⟨_, _, ⟨T33, L33, k33, n33⟩, -, X33, ⟨Lc33, hQ33, l33, y33, z33⟩, st33⟩ := X28.virtualBack hx (y := (⟨"com/example/cyclecut/cyclecut/graph/Graph", "vertexCount", "()I"⟩ : MethodName)) (z := (⟨"com/example/cyclecut/cyclecut/graph/Graph", "vertexCount", "()I"⟩ : MethodName)) hown (mvT hZ (hw _ (List.mem_of_getElem? (i := 62) rfl))) (mvT hZ (hw _ (List.mem_of_getElem? (i := 63) rfl))) (notFace_of_selects (args := #[]) (mvT hZ (hw _ (List.mem_of_getElem? (i := 65) rfl)))) (mvT hZ (hw _ (List.mem_of_getElem? (i := 65) rfl))) (mvT hZ (hw _ (List.mem_of_getElem? (i := 64) rfl))) (by decide) (backOf (W := 0) (rm7 l Z a0 hw [] b28 v1 T28.heap n0 zp28 eg28 fl28_0) hZ (hw _ (List.mem_of_getElem? (i := 66) rfl)) (hw _ (List.mem_of_getElem? (i := 23) rfl)) (by decide) (by decide)) qa33 qc33 (g := (mkF m 186 #[.val (.int p1), .val (.int p2), .val (.int p3), .val (.int p4), .val (.int p5), .val (.int v1), .val (.int (0 : Int32)), .val (.int v17), .val (.int v18), .val (.int v19), .val (.int v20), .val (.int v21), .val (.int v22), .val (.ref b23), .val (.ref b28), .unset, .unset, .unset, .unset, .unset, .unset, .unset] [(.ref b28)])) rfl (by rw [hml]; rfl) (Steps.refl _) (argsL := []) (rest := []) (lenOf own_pd4 rfl) rfl (by show 2 * 0 + _ ≤ _; exact Nat.le_of_eq rfl) (hb hby at_186) (fun _ _ => ⟨rfl, rfl, (by decide : 0 + 1 + 2 + 7 + 0 ≤ _), (by decide : 0 + 4 + 24 + 150 + 0 ≤ _)⟩)
      dsimp only [Pt.U, Pt.locs, Pt.cells, Pt.slots] at X33 l33 y33 z33 st33 hQ33
      subst l33 y33 z33
      obtain ⟨rfl, N33q, e33⟩ := hQ33
      have N33 := Fr.app N28 N33q
      refine own_go (fun tgt cont => st33.trans cont) ?_
      show own_Go p e below s (Q0 n0) room_1.cells room_1.slots (T33.setTop (mkF m 189 #[.val (.int p1), .val (.int p2), .val (.int p3), .val (.int p4), .val (.int p5), .val (.int v1), .val (.int (0 : Int32)), .val (.int v17), .val (.int v18), .val (.int v19), .val (.int v20), .val (.int v21), .val (.int v22), .val (.ref b23), .val (.ref b28), .unset, .unset, .unset, .unset, .unset, .unset, .unset] [(.int v1)]))
      refine own_go (B := T33.setTop (mkF m 196 #[.val (.int p1), .val (.int p2), .val (.int p3), .val (.int p4), .val (.int p5), .val (.int v1), .val (.int (0 : Int32)), .val (.int v17), .val (.int v18), .val (.int v19), .val (.int v20), .val (.int v21), .val (.int v22), .val (.ref b23), .val (.ref b28), .unset, .unset, .unset, .unset, .unset, .unset, .unset] [(.ref b28)])) (fun tgt cont => ?_) ?_
      · refine XS.iload X33.here hx rfl (hb hby at_189) rfl ?_
        refine XS.icmpNo X33.here hx rfl (hb hby at_191) rfl (XT.ii_ne_f rfl) ?_
        refine XS.aload X33.here hx rfl (hb hby at_194) rfl rfl ?_
        exact cont
      -- pc 196: Graph.edgeCount
      obtain ⟨cq34, kq34, qa34, qb34, qc34⟩ := isOf hZ e33 eg28
      obtain ⟨_, _, ⟨T34, L34, k34, n34⟩, -, X34, ⟨Lc34, hQ34, l34, y34, z34⟩, st34⟩ := X33.virtualBack hx (y := (⟨"com/example/cyclecut/cyclecut/graph/Graph", "edgeCount", "()I"⟩ : MethodName)) (z := (⟨"com/example/cyclecut/cyclecut/graph/Graph", "edgeCount", "()I"⟩ : MethodName)) hown (mvT hZ (hw _ (List.mem_of_getElem? (i := 67) rfl))) (mvT hZ (hw _ (List.mem_of_getElem? (i := 68) rfl))) (notFace_of_selects (args := #[]) (mvT hZ (hw _ (List.mem_of_getElem? (i := 70) rfl)))) (mvT hZ (hw _ (List.mem_of_getElem? (i := 70) rfl))) (mvT hZ (hw _ (List.mem_of_getElem? (i := 69) rfl))) (by decide) (backOf (W := 0) (rm8 l Z a0 hw [] b28 xe28 w29 T28.heap n0 zp28 eg28 fl28_1 al28_0) hZ (hw _ (List.mem_of_getElem? (i := 71) rfl)) (hw _ (List.mem_of_getElem? (i := 23) rfl)) (by decide) (by decide)) qa34 qc34 (g := (mkF m 196 #[.val (.int p1), .val (.int p2), .val (.int p3), .val (.int p4), .val (.int p5), .val (.int v1), .val (.int (0 : Int32)), .val (.int v17), .val (.int v18), .val (.int v19), .val (.int v20), .val (.int v21), .val (.int v22), .val (.ref b23), .val (.ref b28), .unset, .unset, .unset, .unset, .unset, .unset, .unset] [(.ref b28)])) rfl (by rw [hml]; rfl) (Steps.refl _) (argsL := []) (rest := []) (lenOf own_pd4 rfl) rfl (by show 2 * 0 + _ ≤ _; exact Nat.le_of_eq rfl) (hb hby at_196) (fun _ _ => ⟨rfl, e33, (by decide : 0 + 1 + 2 + 7 + 0 + 0 ≤ _), (by decide : 0 + 4 + 24 + 150 + 0 + 0 ≤ _)⟩)
      dsimp only [Pt.U, Pt.locs, Pt.cells, Pt.slots] at X34 l34 y34 z34 st34 hQ34
      subst l34 y34 z34
      obtain ⟨rfl, N34q, e34⟩ := hQ34
      have N34 := Fr.app N33 N34q
      refine own_go (fun tgt cont => st34.trans cont) ?_
      show own_Go p e below s (Q0 n0) room_1.cells room_1.slots (T34.setTop (mkF m 199 #[.val (.int p1), .val (.int p2), .val (.int p3), .val (.int p4), .val (.int p5), .val (.int v1), .val (.int (0 : Int32)), .val (.int v17), .val (.int v18), .val (.int v19), .val (.int v20), .val (.int v21), .val (.int v22), .val (.ref b23), .val (.ref b28), .unset, .unset, .unset, .unset, .unset, .unset, .unset] [(.int (own_gec_r w29))]))
      generalize hr35 : (own_gec_r w29) = r35
      refine own_go (B := T34.setTop (mkF m 221 #[.val (.int p1), .val (.int p2), .val (.int p3), .val (.int p4), .val (.int p5), .val (.int v1), .val (.int (0 : Int32)), .val (.int v17), .val (.int v18), .val (.int v19), .val (.int v20), .val (.int v21), .val (.int v22), .val (.ref b23), .val (.ref b28), .unset, .unset, .unset, .unset, .unset, .unset, .unset] [(.int ((p4 &&& (255 : Int32)) % v1))])) (fun tgt cont => ?_) ?_
      · refine XS.iload X34.here hx rfl (hb hby at_199) rfl ?_
        refine XS.icmpYes X34.here hx rfl (pc0 := 201) (pc' := 206) rfl (hb hby at_201) rfl (XT.ii_eq_t (by rw [← hr35]; exact own_gec_0 ll)) (by decide) (by decide) ?_
        refine XS.iload X34.here hx rfl (hb hby at_206) rfl ?_
        refine XS.ifYes X34.here hx rfl (pc0 := 208) (pc' := 213) rfl (hb hby at_208) rfl (XT.i0_ne_t hc2) (by decide) (by decide) ?_
        refine XS.iloadN X34.here hx rfl (hb hby at_213) rfl ?_
        refine XT.sipushV X34.here hx rfl (255 : Int32) (hb hby at_214) rfl ?_
        refine XS.iand X34.here hx rfl (hb hby at_217) rfl ?_
        refine XS.iload X34.here hx rfl (hb hby at_218) rfl ?_
        refine iremM X34 hx rfl (hb hby at_220) rfl (own_n3c m1) ?_
        exact cont
      generalize hv36 : ((p4 &&& (255 : Int32)) % v1) = v36
      refine own_go (B := T34.setTop (mkF m 223 #[.val (.int p1), .val (.int p2), .val (.int p3), .val (.int p4), .val (.int p5), .val (.int v1), .val (.int (0 : Int32)), .val (.int v17), .val (.int v18), .val (.int v19), .val (.int v20), .val (.int v21), .val (.int v22), .val (.ref b23), .val (.ref b28), .val (.int v36), .unset, .unset, .unset, .unset, .unset, .unset] [])) (fun tgt cont => ?_) ?_
      · refine XS.istore X34.here hx rfl (hb hby at_221) rfl (l' := #[.val (.int p1), .val (.int p2), .val (.int p3), .val (.int p4), .val (.int p5), .val (.int v1), .val (.int (0 : Int32)), .val (.int v17), .val (.int v18), .val (.int v19), .val (.int v20), .val (.int v21), .val (.int v22), .val (.ref b23), .val (.ref b28), .val (.int v36), .unset, .unset, .unset, .unset, .unset, .unset]) rfl ?_
        exact cont
      have B_v36 : own_be v36 v1 := by rw [← hv36]; exact own_b255 m1
      refine own_go (B := T34.setTop (mkF m 225 #[.val (.int p1), .val (.int p2), .val (.int p3), .val (.int p4), .val (.int p5), .val (.int v1), .val (.int (0 : Int32)), .val (.int v17), .val (.int v18), .val (.int v19), .val (.int v20), .val (.int v21), .val (.int v22), .val (.ref b23), .val (.ref b28), .val (.int v36), .unset, .unset, .unset, .unset, .unset, .unset] [(.int (6 : Int32))])) (fun tgt cont => ?_) ?_
      · refine XT.bipushV X34.here hx rfl (6 : Int32) (hb hby at_223) rfl ?_
        exact cont
      have f38 := (ex24_0.keep K28)
      have f39 := (eb24_0.keep K28)
      have f40 := (eb24_1.keep K28)
      obtain ⟨T37, h37, X37, e37, E37, A37, AE37, st37⟩ := own_newIA X34 hx hZ (hw _ (List.mem_of_getElem? (i := 9) rfl)) e34 (g := (mkF m 225 #[.val (.int p1), .val (.int p2), .val (.int p3), .val (.int p4), .val (.int p5), .val (.int v1), .val (.int (0 : Int32)), .val (.int v17), .val (.int v18), .val (.int v19), .val (.int v20), .val (.int v21), .val (.int v22), .val (.ref b23), .val (.ref b28), .val (.int v36), .unset, .unset, .unset, .unset, .unset, .unset] [(.int (6 : Int32))])) rfl (hb hby at_225) rfl (by decide) (cap := 6) (by decide) (by decide) (by decide) (by decide)
      obtain ⟨b37, g37⟩ : ∃ z, z = T28.heap.size := ⟨_, rfl⟩
      rw [← g37] at A37 AE37 st37
      have g_b37 : n0 ≤ b37 := Nat.le_trans zp28 (Nat.le_of_eq g37.symm)
      have sz_b37 : h0.size ≤ b37 := Nat.le_trans kk28.1 (Nat.le_of_eq g37.symm)
      have ne_b23_b37 : b23 ≠ b37 := Nat.ne_of_lt (by rw [g37]; exact f38.lt)
      have ne_b24_0_b37 : b24_0 ≠ b37 := Nat.ne_of_lt (by rw [g37]; exact f39.lt)
      have ne_b24_1_b37 : b24_1 ≠ b37 := Nat.ne_of_lt (by rw [g37]; exact f40.lt)
      have ne_b28_b37 : b28 ≠ b37 := Nat.ne_of_lt (by rw [g37]; exact eg28.lt)
      have ne_xe28_b37 : xe28 ≠ b37 := Nat.ne_of_lt (by rw [g37]; exact al28_0.lt)
      have ne_xf28_b37 : xf28 ≠ b37 := Nat.ne_of_lt (by rw [g37]; exact al28_1.lt)
      have ne_xn28_b37 : xn28 ≠ b37 := Nat.ne_of_lt (by rw [g37]; exact al28_2.lt)
      have ne_xs28_b37 : xs28 ≠ b37 := Nat.ne_of_lt (by rw [g37]; exact al28_3.lt)
      have kk37 : Keep h0 h37 [] := kk28.ext E37
      have zp37 : n0 ≤ h37.size := Nat.le_trans Z0 kk37.1
      have A37v : own_IA Z h37 b37 [(0 : Int32), (0 : Int32), (0 : Int32), (0 : Int32), (0 : Int32), (0 : Int32)] := A37
      refine own_go (fun tgt cont => st37 tgt cont) ?_
      show own_Go p e below s (Q0 n0) room_1.cells room_1.slots (T37.setTop (mkF m 227 #[.val (.int p1), .val (.int p2), .val (.int p3), .val (.int p4), .val (.int p5), .val (.int v1), .val (.int (0 : Int32)), .val (.int v17), .val (.int v18), .val (.int v19), .val (.int v20), .val (.int v21), .val (.int v22), .val (.ref b23), .val (.ref b28), .val (.int v36), .unset, .unset, .unset, .unset, .unset, .unset] [(.ref b37)]))
      refine own_go (B := T37.setTop (mkF m 231 #[.val (.int p1), .val (.int p2), .val (.int p3), .val (.int p4), .val (.int p5), .val (.int v1), .val (.int (0 : Int32)), .val (.int v17), .val (.int v18), .val (.int v19), .val (.int v20), .val (.int v21), .val (.int v22), .val (.ref b23), .val (.ref b28), .val (.int v36), .val (.ref b37), .unset, .unset, .unset, .unset, .unset] [(.int (6 : Int32))])) (fun tgt cont => ?_) ?_
      · refine XS.astore X37.here hx rfl (hb hby at_227) rfl rfl (l' := #[.val (.int p1), .val (.int p2), .val (.int p3), .val (.int p4), .val (.int p5), .val (.int v1), .val (.int (0 : Int32)), .val (.int v17), .val (.int v18), .val (.int v19), .val (.int v20), .val (.int v21), .val (.int v22), .val (.ref b23), .val (.ref b28), .val (.int v36), .val (.ref b37), .unset, .unset, .unset, .unset, .unset]) rfl ?_
        refine XT.bipushV X37.here hx rfl (6 : Int32) (hb hby at_229) rfl ?_
        exact cont
      have f42 := (f38.ext E37)
      have f43 := (f39.ext E37)
      have f44 := (f40.ext E37)
      have f45 := (eg28.ext E37)
      have f46 := (al28_0.ext E37)
      have f47 := (al28_1.ext E37)
      have f48 := (al28_2.ext E37)
      have f49 := (al28_3.ext E37)
      obtain ⟨T41, h41, X41, e41, E41, A41, AE41, st41⟩ := own_newIA X37 hx hZ (hw _ (List.mem_of_getElem? (i := 9) rfl)) e37 (g := (mkF m 231 #[.val (.int p1), .val (.int p2), .val (.int p3), .val (.int p4), .val (.int p5), .val (.int v1), .val (.int (0 : Int32)), .val (.int v17), .val (.int v18), .val (.int v19), .val (.int v20), .val (.int v21), .val (.int v22), .val (.ref b23), .val (.ref b28), .val (.int v36), .val (.ref b37), .unset, .unset, .unset, .unset, .unset] [(.int (6 : Int32))])) rfl (hb hby at_231) rfl (by decide) (cap := 6) (by decide) (by decide) (by decide) (by decide)
      obtain ⟨b41, g41⟩ : ∃ z, z = h37.size := ⟨_, rfl⟩
      rw [← g41] at A41 AE41 st41
      have g_b41 : n0 ≤ b41 := Nat.le_trans zp37 (Nat.le_of_eq g41.symm)
      have sz_b41 : h0.size ≤ b41 := Nat.le_trans kk37.1 (Nat.le_of_eq g41.symm)
      have ne_b23_b41 : b23 ≠ b41 := Nat.ne_of_lt (by rw [g41]; exact f42.lt)
      have ne_b24_0_b41 : b24_0 ≠ b41 := Nat.ne_of_lt (by rw [g41]; exact f43.lt)
      have ne_b24_1_b41 : b24_1 ≠ b41 := Nat.ne_of_lt (by rw [g41]; exact f44.lt)
      have ne_b28_b41 : b28 ≠ b41 := Nat.ne_of_lt (by rw [g41]; exact f45.lt)
      have ne_xe28_b41 : xe28 ≠ b41 := Nat.ne_of_lt (by rw [g41]; exact f46.lt)
      have ne_xf28_b41 : xf28 ≠ b41 := Nat.ne_of_lt (by rw [g41]; exact f47.lt)
      have ne_xn28_b41 : xn28 ≠ b41 := Nat.ne_of_lt (by rw [g41]; exact f48.lt)
      have ne_xs28_b41 : xs28 ≠ b41 := Nat.ne_of_lt (by rw [g41]; exact f49.lt)
      have ne_b37_b41 : b37 ≠ b41 := Nat.ne_of_lt (by rw [g41]; exact A37v.lt)
      have kk41 : Keep h0 h41 [] := kk37.ext E41
      have zp41 : n0 ≤ h41.size := Nat.le_trans Z0 kk41.1
      have A41v : own_IA Z h41 b41 [(0 : Int32), (0 : Int32), (0 : Int32), (0 : Int32), (0 : Int32), (0 : Int32)] := A41
      refine own_go (fun tgt cont => st41 tgt cont) ?_
      show own_Go p e below s (Q0 n0) room_1.cells room_1.slots (T41.setTop (mkF m 233 #[.val (.int p1), .val (.int p2), .val (.int p3), .val (.int p4), .val (.int p5), .val (.int v1), .val (.int (0 : Int32)), .val (.int v17), .val (.int v18), .val (.int v19), .val (.int v20), .val (.int v21), .val (.int v22), .val (.ref b23), .val (.ref b28), .val (.int v36), .val (.ref b37), .unset, .unset, .unset, .unset, .unset] [(.ref b41)]))
      refine own_go (B := T41.setTop (mkF m 235 #[.val (.int p1), .val (.int p2), .val (.int p3), .val (.int p4), .val (.int p5), .val (.int v1), .val (.int (0 : Int32)), .val (.int v17), .val (.int v18), .val (.int v19), .val (.int v20), .val (.int v21), .val (.int v22), .val (.ref b23), .val (.ref b28), .val (.int v36), .val (.ref b37), .val (.ref b41), .unset, .unset, .unset, .unset] [])) (fun tgt cont => ?_) ?_
      · refine XS.astore X41.here hx rfl (hb hby at_233) rfl rfl (l' := #[.val (.int p1), .val (.int p2), .val (.int p3), .val (.int p4), .val (.int p5), .val (.int v1), .val (.int (0 : Int32)), .val (.int v17), .val (.int v18), .val (.int v19), .val (.int v20), .val (.int v21), .val (.int v22), .val (.ref b23), .val (.ref b28), .val (.int v36), .val (.ref b37), .val (.ref b41), .unset, .unset, .unset, .unset]) rfl ?_
        exact cont
      have NB0 : own_NB [] (own_f []) own_h v36 (0 : Int32) [(0 : Int32), (0 : Int32), (0 : Int32), (0 : Int32), (0 : Int32), (0 : Int32)] [(0 : Int32), (0 : Int32), (0 : Int32), (0 : Int32), (0 : Int32), (0 : Int32)] := own_NB0 _ _ _ rfl rfl
      refine own_go (B := T41.setTop (mkF m 311 #[.val (.int p1), .val (.int p2), .val (.int p3), .val (.int p4), .val (.int p5), .val (.int v1), .val (.int (0 : Int32)), .val (.int v17), .val (.int v18), .val (.int v19), .val (.int v20), .val (.int v21), .val (.int v22), .val (.ref b23), .val (.ref b28), .val (.int v36), .val (.ref b37), .val (.ref b41), .val (.int (0 : Int32)), .unset, .unset, .unset] [(.ref b28)])) (fun tgt cont => ?_) ?_
      · refine XT.iconstV X41.here hx rfl (0 : Int32) (hb hby at_235) rfl ?_
        refine XS.istore X41.here hx rfl (hb hby at_236) rfl (l' := #[.val (.int p1), .val (.int p2), .val (.int p3), .val (.int p4), .val (.int p5), .val (.int v1), .val (.int (0 : Int32)), .val (.int v17), .val (.int v18), .val (.int v19), .val (.int v20), .val (.int v21), .val (.int v22), .val (.ref b23), .val (.ref b28), .val (.int v36), .val (.ref b37), .val (.ref b41), .val (.int (0 : Int32)), .unset, .unset, .unset]) rfl ?_
        refine XS.iload X41.here hx rfl (hb hby at_238) rfl ?_
        refine XS.ifYes X41.here hx rfl (pc0 := 240) (pc' := 261) rfl (hb hby at_240) rfl (XT.i0_le_t (by first | decide | exact (show ¬ (0 < (0 : Int32)) from by decide))) (by decide) (by decide) ?_
        refine XS.iload X41.here hx rfl (hb hby at_261) rfl ?_
        refine XT.iconstV X41.here hx rfl (1 : Int32) (hb hby at_263) rfl ?_
        refine XS.icmpYes X41.here hx rfl (pc0 := 264) (pc' := 285) rfl (hb hby at_264) rfl (XT.ii_le_t (by first | decide | exact (show ¬ ((1 : Int32) < (0 : Int32)) from by decide))) (by decide) (by decide) ?_
        refine XS.iload X41.here hx rfl (hb hby at_285) rfl ?_
        refine XT.iconstV X41.here hx rfl (2 : Int32) (hb hby at_287) rfl ?_
        refine XS.icmpYes X41.here hx rfl (pc0 := 288) (pc' := 309) rfl (hb hby at_288) rfl (XT.ii_le_t (by first | decide | exact (show ¬ ((2 : Int32) < (0 : Int32)) from by decide))) (by decide) (by decide) ?_
        refine XS.aload X41.here hx rfl (hb hby at_309) rfl rfl ?_
        exact cont
      refine own_go (B := T41.setTop (mkF m 313 #[.val (.int p1), .val (.int p2), .val (.int p3), .val (.int p4), .val (.int p5), .val (.int v1), .val (.int (0 : Int32)), .val (.int v17), .val (.int v18), .val (.int v19), .val (.int v20), .val (.int v21), .val (.int v22), .val (.ref b23), .val (.ref b28), .val (.int v36), .val (.ref b37), .val (.ref b41), .val (.int (0 : Int32)), .unset, .unset, .unset] [(.int v36), (.ref b28)])) (fun tgt cont => ?_) ?_
      · refine XS.iload X41.here hx rfl (hb hby at_311) rfl ?_
        exact cont
      -- pc 313: Graph.degree
      have f51 := (f45.ext E41)
      have f52 := ((fl28_0.ext E37).ext E41)
      have f53 := ((fl28_2.ext E37).ext E41)
      have f54 := (f47.ext E41)
      obtain ⟨cq50, kq50, qa50, qb50, qc50⟩ := isOf hZ e41 f51
      obtain ⟨_, _, ⟨T50, L50, k50, n50⟩, -, X50, ⟨Lc50, hQ50, l50, y50, z50⟩, st50⟩ := X41.virtualBack hx (y := (⟨"com/example/cyclecut/cyclecut/graph/Graph", "degree", "(I)I"⟩ : MethodName)) (z := (⟨"com/example/cyclecut/cyclecut/graph/Graph", "degree", "(I)I"⟩ : MethodName)) hown (mvT hZ (hw _ (List.mem_of_getElem? (i := 72) rfl))) (mvT hZ (hw _ (List.mem_of_getElem? (i := 73) rfl))) (notFace_of_selects (args := #[]) (mvT hZ (hw _ (List.mem_of_getElem? (i := 75) rfl)))) (mvT hZ (hw _ (List.mem_of_getElem? (i := 75) rfl))) (mvT hZ (hw _ (List.mem_of_getElem? (i := 74) rfl))) (by decide) (backOf (W := 0) (rm9 l Z a0 hw [] b28 v36 v1 xf28 w30 h41 n0 zp41 f51 f52 f53 f54 B_v36.1 B_v36.2.1 (own_g3 n1 GS B_v36) (own_g4 n1 GS B_v36)) hZ (hw _ (List.mem_of_getElem? (i := 76) rfl)) (hw _ (List.mem_of_getElem? (i := 23) rfl)) (by decide) (by decide)) qa50 qc50 (g := (mkF m 313 #[.val (.int p1), .val (.int p2), .val (.int p3), .val (.int p4), .val (.int p5), .val (.int v1), .val (.int (0 : Int32)), .val (.int v17), .val (.int v18), .val (.int v19), .val (.int v20), .val (.int v21), .val (.int v22), .val (.ref b23), .val (.ref b28), .val (.int v36), .val (.ref b37), .val (.ref b41), .val (.int (0 : Int32)), .unset, .unset, .unset] [(.int v36), (.ref b28)])) rfl (by rw [hml]; rfl) (Steps.refl _) (argsL := [(.int v36)]) (rest := []) (lenOf own_pd5 rfl) rfl (by show 2 * 0 + _ ≤ _; exact Nat.le_of_eq rfl) (hb hby at_313) (fun _ _ => ⟨rfl, e41, (by decide : 0 + 1 + 2 + 7 + 0 + 0 + 1 + 1 + 0 ≤ _), (by decide : 0 + 4 + 24 + 150 + 0 + 0 + 6 + 6 + 0 ≤ _)⟩)
      dsimp only [Pt.U, Pt.locs, Pt.cells, Pt.slots] at X50 l50 y50 z50 st50 hQ50
      subst l50 y50 z50
      obtain ⟨rfl, N50q, e50⟩ := hQ50
      have N50 := Fr.app N34 N50q
      refine own_go (fun tgt cont => st50.trans cont) ?_
      show own_Go p e below s (Q0 n0) room_1.cells room_1.slots (T50.setTop (mkF m 316 #[.val (.int p1), .val (.int p2), .val (.int p3), .val (.int p4), .val (.int p5), .val (.int v1), .val (.int (0 : Int32)), .val (.int v17), .val (.int v18), .val (.int v19), .val (.int v20), .val (.int v21), .val (.int v22), .val (.ref b23), .val (.ref b28), .val (.int v36), .val (.ref b37), .val (.ref b41), .val (.int (0 : Int32)), .unset, .unset, .unset] [(.int (own_gdg_r v36 v1 w30))]))
      generalize hr55 : (own_gdg_r v36 v1 w30) = r55
      refine own_go (B := T50.setTop (mkF m 470 #[.val (.int p1), .val (.int p2), .val (.int p3), .val (.int p4), .val (.int p5), .val (.int v1), .val (.int (0 : Int32)), .val (.int v17), .val (.int v18), .val (.int v19), .val (.int v20), .val (.int v21), .val (.int v22), .val (.ref b23), .val (.ref b28), .val (.int v36), .val (.ref b37), .val (.ref b41), .val (.int (0 : Int32)), .unset, .unset, .unset] [(.int (1 : Int32))])) (fun tgt cont => ?_) ?_
      · refine XS.iload X50.here hx rfl (hb hby at_316) rfl ?_
        refine XS.icmpYes X50.here hx rfl (pc0 := 318) (pc' := 323) rfl (hb hby at_318) rfl (XT.ii_eq_t (by rw [← hr55]; exact (own_degE n1 GS B_v36).trans NB0.2.2.1.symm)) (by decide) (by decide) ?_
        refine XS.iload X50.here hx rfl (hb hby at_323) rfl ?_
        refine XS.ifYes X50.here hx rfl (pc0 := 325) (pc' := 377) rfl (hb hby at_325) rfl (XT.i0_le_t (by first | decide | exact (show ¬ (0 < (0 : Int32)) from by decide))) (by decide) (by decide) ?_
        refine XS.iload X50.here hx rfl (hb hby at_377) rfl ?_
        refine XS.ifYes X50.here hx rfl (pc0 := 379) (pc' := 469) rfl (hb hby at_379) rfl (XT.i0_le_t (by first | decide | exact (show ¬ (0 < (0 : Int32)) from by decide))) (by decide) (by decide) ?_
        refine XT.iconstV X50.here hx rfl (1 : Int32) (hb hby at_469) rfl ?_
        exact cont
      refine own_end X50 (v := some (.int (1 : Int32))) (fun h => by rw [Bd.returns] at h; cases h) hlk ?_ (by decide) (by decide) (fun fs hl => retN X50 hx (t := .boolean) Bd.returns (by simp) (hb hby at_470) hl)
      exact ⟨rfl, N50⟩
    ·
      refine own_go (B := s₁.setTop (mkF m 39 #[.val (.int p1), .val (.int p2), .val (.int p3), .val (.int p4), .val (.int p5), .val (.int v1), .val (.int (1 : Int32)), .val (.int (0 : Int32)), .val (.int (0 : Int32)), .val (.int (0 : Int32)), .val (.int (0 : Int32)), .val (.int (0 : Int32)), .unset, .unset, .unset, .unset, .unset, .unset, .unset, .unset, .unset, .unset] [])) (fun tgt cont => ?_) ?_
      · refine XT.iconstV X0.here hx rfl (0 : Int32) (hb hby at_24) rfl ?_
        refine XS.istore X0.here hx rfl (hb hby at_25) rfl (l' := #[.val (.int p1), .val (.int p2), .val (.int p3), .val (.int p4), .val (.int p5), .val (.int v1), .val (.int (1 : Int32)), .val (.int (0 : Int32)), .unset, .unset, .unset, .unset, .unset, .unset, .unset, .unset, .unset, .unset, .unset, .unset, .unset, .unset]) rfl ?_
        refine XT.iconstV X0.here hx rfl (0 : Int32) (hb hby at_27) rfl ?_
        refine XS.istore X0.here hx rfl (hb hby at_28) rfl (l' := #[.val (.int p1), .val (.int p2), .val (.int p3), .val (.int p4), .val (.int p5), .val (.int v1), .val (.int (1 : Int32)), .val (.int (0 : Int32)), .val (.int (0 : Int32)), .unset, .unset, .unset, .unset, .unset, .unset, .unset, .unset, .unset, .unset, .unset, .unset, .unset]) rfl ?_
        refine XT.iconstV X0.here hx rfl (0 : Int32) (hb hby at_30) rfl ?_
        refine XS.istore X0.here hx rfl (hb hby at_31) rfl (l' := #[.val (.int p1), .val (.int p2), .val (.int p3), .val (.int p4), .val (.int p5), .val (.int v1), .val (.int (1 : Int32)), .val (.int (0 : Int32)), .val (.int (0 : Int32)), .val (.int (0 : Int32)), .unset, .unset, .unset, .unset, .unset, .unset, .unset, .unset, .unset, .unset, .unset, .unset]) rfl ?_
        refine XT.iconstV X0.here hx rfl (0 : Int32) (hb hby at_33) rfl ?_
        refine XS.istore X0.here hx rfl (hb hby at_34) rfl (l' := #[.val (.int p1), .val (.int p2), .val (.int p3), .val (.int p4), .val (.int p5), .val (.int v1), .val (.int (1 : Int32)), .val (.int (0 : Int32)), .val (.int (0 : Int32)), .val (.int (0 : Int32)), .val (.int (0 : Int32)), .unset, .unset, .unset, .unset, .unset, .unset, .unset, .unset, .unset, .unset, .unset]) rfl ?_
        refine XT.iconstV X0.here hx rfl (0 : Int32) (hb hby at_36) rfl ?_
        refine XS.istore X0.here hx rfl (hb hby at_37) rfl (l' := #[.val (.int p1), .val (.int p2), .val (.int p3), .val (.int p4), .val (.int p5), .val (.int v1), .val (.int (1 : Int32)), .val (.int (0 : Int32)), .val (.int (0 : Int32)), .val (.int (0 : Int32)), .val (.int (0 : Int32)), .val (.int (0 : Int32)), .unset, .unset, .unset, .unset, .unset, .unset, .unset, .unset, .unset, .unset]) rfl ?_
        exact cont
      refine own_go (B := s₁.setTop (mkF m 55 #[.val (.int p1), .val (.int p2), .val (.int p3), .val (.int p4), .val (.int p5), .val (.int v1), .val (.int (1 : Int32)), .val (.int (0 : Int32)), .val (.int (0 : Int32)), .val (.int (0 : Int32)), .val (.int (0 : Int32)), .val (.int (0 : Int32)), .val (.int (0 : Int32)), .unset, .unset, .unset, .unset, .unset, .unset, .unset, .unset, .unset] [(.int ((p2 &&& (255 : Int32)) % v1))])) (fun tgt cont => ?_) ?_
      · refine XT.iconstV X0.here hx rfl (0 : Int32) (hb hby at_39) rfl ?_
        refine XS.istore X0.here hx rfl (hb hby at_40) rfl (l' := #[.val (.int p1), .val (.int p2), .val (.int p3), .val (.int p4), .val (.int p5), .val (.int v1), .val (.int (1 : Int32)), .val (.int (0 : Int32)), .val (.int (0 : Int32)), .val (.int (0 : Int32)), .val (.int (0 : Int32)), .val (.int (0 : Int32)), .val (.int (0 : Int32)), .unset, .unset, .unset, .unset, .unset, .unset, .unset, .unset, .unset]) rfl ?_
        refine XS.iload X0.here hx rfl (hb hby at_42) rfl ?_
        refine XS.ifNo X0.here hx rfl (hb hby at_44) rfl (XT.i0_le_f (own_zt m1)) ?_
        refine XS.iloadN X0.here hx rfl (hb hby at_47) rfl ?_
        refine XT.sipushV X0.here hx rfl (255 : Int32) (hb hby at_48) rfl ?_
        refine XS.iand X0.here hx rfl (hb hby at_51) rfl ?_
        refine XS.iload X0.here hx rfl (hb hby at_52) rfl ?_
        refine iremM X0 hx rfl (hb hby at_54) rfl (own_n3c m1) ?_
        exact cont
      generalize hv56 : ((p2 &&& (255 : Int32)) % v1) = v56
      refine own_go (B := s₁.setTop (mkF m 68 #[.val (.int p1), .val (.int p2), .val (.int p3), .val (.int p4), .val (.int p5), .val (.int v1), .val (.int (1 : Int32)), .val (.int v56), .val (.int (0 : Int32)), .val (.int (0 : Int32)), .val (.int (0 : Int32)), .val (.int (0 : Int32)), .val (.int (0 : Int32)), .unset, .unset, .unset, .unset, .unset, .unset, .unset, .unset, .unset] [(.int ((((p2.toUInt32 >>> ((8 : Int32) &&& 31).toUInt32).toInt32) &&& (255 : Int32)) % v1))])) (fun tgt cont => ?_) ?_
      · refine XS.istore X0.here hx rfl (hb hby at_55) rfl (l' := #[.val (.int p1), .val (.int p2), .val (.int p3), .val (.int p4), .val (.int p5), .val (.int v1), .val (.int (1 : Int32)), .val (.int v56), .val (.int (0 : Int32)), .val (.int (0 : Int32)), .val (.int (0 : Int32)), .val (.int (0 : Int32)), .val (.int (0 : Int32)), .unset, .unset, .unset, .unset, .unset, .unset, .unset, .unset, .unset]) rfl ?_
        refine XS.iloadN X0.here hx rfl (hb hby at_57) rfl ?_
        refine XT.bipushV X0.here hx rfl (8 : Int32) (hb hby at_58) rfl ?_
        refine XS.iushr X0.here hx rfl (hb hby at_60) rfl ?_
        refine XT.sipushV X0.here hx rfl (255 : Int32) (hb hby at_61) rfl ?_
        refine XS.iand X0.here hx rfl (hb hby at_64) rfl ?_
        refine XS.iload X0.here hx rfl (hb hby at_65) rfl ?_
        refine iremM X0 hx rfl (hb hby at_67) rfl (own_n3c m1) ?_
        exact cont
      generalize hv57 : ((((p2.toUInt32 >>> ((8 : Int32) &&& 31).toUInt32).toInt32) &&& (255 : Int32)) % v1) = v57
      refine own_go (B := s₁.setTop (mkF m 81 #[.val (.int p1), .val (.int p2), .val (.int p3), .val (.int p4), .val (.int p5), .val (.int v1), .val (.int (1 : Int32)), .val (.int v56), .val (.int v57), .val (.int (0 : Int32)), .val (.int (0 : Int32)), .val (.int (0 : Int32)), .val (.int (0 : Int32)), .unset, .unset, .unset, .unset, .unset, .unset, .unset, .unset, .unset] [(.int ((((p2.toUInt32 >>> ((16 : Int32) &&& 31).toUInt32).toInt32) &&& (255 : Int32)) % v1))])) (fun tgt cont => ?_) ?_
      · refine XS.istore X0.here hx rfl (hb hby at_68) rfl (l' := #[.val (.int p1), .val (.int p2), .val (.int p3), .val (.int p4), .val (.int p5), .val (.int v1), .val (.int (1 : Int32)), .val (.int v56), .val (.int v57), .val (.int (0 : Int32)), .val (.int (0 : Int32)), .val (.int (0 : Int32)), .val (.int (0 : Int32)), .unset, .unset, .unset, .unset, .unset, .unset, .unset, .unset, .unset]) rfl ?_
        refine XS.iloadN X0.here hx rfl (hb hby at_70) rfl ?_
        refine XT.bipushV X0.here hx rfl (16 : Int32) (hb hby at_71) rfl ?_
        refine XS.iushr X0.here hx rfl (hb hby at_73) rfl ?_
        refine XT.sipushV X0.here hx rfl (255 : Int32) (hb hby at_74) rfl ?_
        refine XS.iand X0.here hx rfl (hb hby at_77) rfl ?_
        refine XS.iload X0.here hx rfl (hb hby at_78) rfl ?_
        refine iremM X0 hx rfl (hb hby at_80) rfl (own_n3c m1) ?_
        exact cont
      generalize hv58 : ((((p2.toUInt32 >>> ((16 : Int32) &&& 31).toUInt32).toInt32) &&& (255 : Int32)) % v1) = v58
      refine own_go (B := s₁.setTop (mkF m 94 #[.val (.int p1), .val (.int p2), .val (.int p3), .val (.int p4), .val (.int p5), .val (.int v1), .val (.int (1 : Int32)), .val (.int v56), .val (.int v57), .val (.int v58), .val (.int (0 : Int32)), .val (.int (0 : Int32)), .val (.int (0 : Int32)), .unset, .unset, .unset, .unset, .unset, .unset, .unset, .unset, .unset] [(.int ((((p2.toUInt32 >>> ((24 : Int32) &&& 31).toUInt32).toInt32) &&& (255 : Int32)) % v1))])) (fun tgt cont => ?_) ?_
      · refine XS.istore X0.here hx rfl (hb hby at_81) rfl (l' := #[.val (.int p1), .val (.int p2), .val (.int p3), .val (.int p4), .val (.int p5), .val (.int v1), .val (.int (1 : Int32)), .val (.int v56), .val (.int v57), .val (.int v58), .val (.int (0 : Int32)), .val (.int (0 : Int32)), .val (.int (0 : Int32)), .unset, .unset, .unset, .unset, .unset, .unset, .unset, .unset, .unset]) rfl ?_
        refine XS.iloadN X0.here hx rfl (hb hby at_83) rfl ?_
        refine XT.bipushV X0.here hx rfl (24 : Int32) (hb hby at_84) rfl ?_
        refine XS.iushr X0.here hx rfl (hb hby at_86) rfl ?_
        refine XT.sipushV X0.here hx rfl (255 : Int32) (hb hby at_87) rfl ?_
        refine XS.iand X0.here hx rfl (hb hby at_90) rfl ?_
        refine XS.iload X0.here hx rfl (hb hby at_91) rfl ?_
        refine iremM X0 hx rfl (hb hby at_93) rfl (own_n3c m1) ?_
        exact cont
      generalize hv59 : ((((p2.toUInt32 >>> ((24 : Int32) &&& 31).toUInt32).toInt32) &&& (255 : Int32)) % v1) = v59
      refine own_go (B := s₁.setTop (mkF m 104 #[.val (.int p1), .val (.int p2), .val (.int p3), .val (.int p4), .val (.int p5), .val (.int v1), .val (.int (1 : Int32)), .val (.int v56), .val (.int v57), .val (.int v58), .val (.int v59), .val (.int (0 : Int32)), .val (.int (0 : Int32)), .unset, .unset, .unset, .unset, .unset, .unset, .unset, .unset, .unset] [(.int ((p3 &&& (255 : Int32)) % v1))])) (fun tgt cont => ?_) ?_
      · refine XS.istore X0.here hx rfl (hb hby at_94) rfl (l' := #[.val (.int p1), .val (.int p2), .val (.int p3), .val (.int p4), .val (.int p5), .val (.int v1), .val (.int (1 : Int32)), .val (.int v56), .val (.int v57), .val (.int v58), .val (.int v59), .val (.int (0 : Int32)), .val (.int (0 : Int32)), .unset, .unset, .unset, .unset, .unset, .unset, .unset, .unset, .unset]) rfl ?_
        refine XS.iloadN X0.here hx rfl (hb hby at_96) rfl ?_
        refine XT.sipushV X0.here hx rfl (255 : Int32) (hb hby at_97) rfl ?_
        refine XS.iand X0.here hx rfl (hb hby at_100) rfl ?_
        refine XS.iload X0.here hx rfl (hb hby at_101) rfl ?_
        refine iremM X0 hx rfl (hb hby at_103) rfl (own_n3c m1) ?_
        exact cont
      generalize hv60 : ((p3 &&& (255 : Int32)) % v1) = v60
      refine own_go (B := s₁.setTop (mkF m 117 #[.val (.int p1), .val (.int p2), .val (.int p3), .val (.int p4), .val (.int p5), .val (.int v1), .val (.int (1 : Int32)), .val (.int v56), .val (.int v57), .val (.int v58), .val (.int v59), .val (.int v60), .val (.int (0 : Int32)), .unset, .unset, .unset, .unset, .unset, .unset, .unset, .unset, .unset] [(.int ((((p3.toUInt32 >>> ((8 : Int32) &&& 31).toUInt32).toInt32) &&& (255 : Int32)) % v1))])) (fun tgt cont => ?_) ?_
      · refine XS.istore X0.here hx rfl (hb hby at_104) rfl (l' := #[.val (.int p1), .val (.int p2), .val (.int p3), .val (.int p4), .val (.int p5), .val (.int v1), .val (.int (1 : Int32)), .val (.int v56), .val (.int v57), .val (.int v58), .val (.int v59), .val (.int v60), .val (.int (0 : Int32)), .unset, .unset, .unset, .unset, .unset, .unset, .unset, .unset, .unset]) rfl ?_
        refine XS.iloadN X0.here hx rfl (hb hby at_106) rfl ?_
        refine XT.bipushV X0.here hx rfl (8 : Int32) (hb hby at_107) rfl ?_
        refine XS.iushr X0.here hx rfl (hb hby at_109) rfl ?_
        refine XT.sipushV X0.here hx rfl (255 : Int32) (hb hby at_110) rfl ?_
        refine XS.iand X0.here hx rfl (hb hby at_113) rfl ?_
        refine XS.iload X0.here hx rfl (hb hby at_114) rfl ?_
        refine iremM X0 hx rfl (hb hby at_116) rfl (own_n3c m1) ?_
        exact cont
      generalize hv61 : ((((p3.toUInt32 >>> ((8 : Int32) &&& 31).toUInt32).toInt32) &&& (255 : Int32)) % v1) = v61
      refine own_go (B := s₁.setTop (mkF m 119 #[.val (.int p1), .val (.int p2), .val (.int p3), .val (.int p4), .val (.int p5), .val (.int v1), .val (.int (1 : Int32)), .val (.int v56), .val (.int v57), .val (.int v58), .val (.int v59), .val (.int v60), .val (.int v61), .unset, .unset, .unset, .unset, .unset, .unset, .unset, .unset, .unset] [])) (fun tgt cont => ?_) ?_
      · refine XS.istore X0.here hx rfl (hb hby at_117) rfl (l' := #[.val (.int p1), .val (.int p2), .val (.int p3), .val (.int p4), .val (.int p5), .val (.int v1), .val (.int (1 : Int32)), .val (.int v56), .val (.int v57), .val (.int v58), .val (.int v59), .val (.int v60), .val (.int v61), .unset, .unset, .unset, .unset, .unset, .unset, .unset, .unset, .unset]) rfl ?_
        exact cont
      have B_v56 : own_be v56 v1 := by rw [← hv56]; exact own_b255 m1
      have B_v57 : own_be v57 v1 := by rw [← hv57]; exact own_b255 m1
      have B_v58 : own_be v58 v1 := by rw [← hv58]; exact own_b255 m1
      have B_v59 : own_be v59 v1 := by rw [← hv59]; exact own_b255 m1
      have B_v60 : own_be v60 v1 := by rw [← hv60]; exact own_b255 m1
      have B_v61 : own_be v61 v1 := by rw [← hv61]; exact own_b255 m1
      obtain ⟨T62, h62, X62, e62, E62, A62, D62, -, st62⟩ := newO X0 hx hZ hown (hw _ (List.mem_of_getElem? (i := 0) rfl)) (hw _ (List.mem_of_getElem? (i := 1) rfl)) (hw _ (List.mem_of_getElem? (i := 2) rfl)) e0 (g := (mkF m 119 #[.val (.int p1), .val (.int p2), .val (.int p3), .val (.int p4), .val (.int p5), .val (.int v1), .val (.int (1 : Int32)), .val (.int v56), .val (.int v57), .val (.int v58), .val (.int v59), .val (.int v60), .val (.int v61), .unset, .unset, .unset, .unset, .unset, .unset, .unset, .unset, .unset] [])) rfl (hb hby at_119) (by decide) (by decide)
      obtain ⟨b62, g62⟩ : ∃ z, z = h0.size := ⟨_, rfl⟩
      rw [← g62] at A62 D62 st62
      have g_b62 : n0 ≤ b62 := Nat.le_trans Z0 (Nat.le_of_eq g62.symm)
      have sz_b62 : h0.size ≤ b62 := Nat.le_trans (Keep.refl h0 []).1 (Nat.le_of_eq g62.symm)
      have kk62 : Keep h0 h62 [] := (Keep.refl h0 []).ext E62
      have zp62 : n0 ≤ h62.size := Nat.le_trans Z0 kk62.1
      have F_ends_b62 : Fld Z h62 b62 "com/example/cyclecut/cyclecut/graph/Graph$Builder" "ends" "[I" .null := D62 (Or.inl (hw _ (List.mem_of_getElem? (i := 11) rfl))) (ty := (.array .int)) (by decide)
      have F_vertexCount_b62 : Fld Z h62 b62 "com/example/cyclecut/cyclecut/graph/Graph$Builder" "vertexCount" "I" (.int (0 : Int32)) := D62 (Or.inr (hw _ (List.mem_of_getElem? (i := 13) rfl))) (ty := .int) (by decide)
      have F_degree_b62 : Fld Z h62 b62 "com/example/cyclecut/cyclecut/graph/Graph$Builder" "degree" "[I" .null := D62 (Or.inr (hw _ (List.mem_of_getElem? (i := 15) rfl))) (ty := (.array .int)) (by decide)
      have F_edgeCount_b62 : Fld Z h62 b62 "com/example/cyclecut/cyclecut/graph/Graph$Builder" "edgeCount" "I" (.int (0 : Int32)) := D62 (Or.inl (hw _ (List.mem_of_getElem? (i := 25) rfl))) (ty := .int) (by decide)
      refine own_go (fun tgt cont => st62 tgt cont) ?_
      show own_Go p e below s (Q0 n0) room_1.cells room_1.slots (T62.setTop (mkF m 122 #[.val (.int p1), .val (.int p2), .val (.int p3), .val (.int p4), .val (.int p5), .val (.int v1), .val (.int (1 : Int32)), .val (.int v56), .val (.int v57), .val (.int v58), .val (.int v59), .val (.int v60), .val (.int v61), .unset, .unset, .unset, .unset, .unset, .unset, .unset, .unset, .unset] [(.ref b62)]))
      refine own_go (B := T62.setTop (mkF m 125 #[.val (.int p1), .val (.int p2), .val (.int p3), .val (.int p4), .val (.int p5), .val (.int v1), .val (.int (1 : Int32)), .val (.int v56), .val (.int v57), .val (.int v58), .val (.int v59), .val (.int v60), .val (.int v61), .unset, .unset, .unset, .unset, .unset, .unset, .unset, .unset, .unset] [(.int v1), (.ref b62), (.ref b62)])) (fun tgt cont => ?_) ?_
      · refine XS.dup X62.here hx rfl (hb hby at_122) rfl rfl ?_
        refine XS.iload X62.here hx rfl (hb hby at_123) rfl ?_
        exact cont
      -- pc 125: Graph$Builder.<init>
      obtain ⟨_, _, ⟨T63, L63, k63, n63⟩, -, X63, ⟨Lc63, hQ63, l63, y63, z63⟩, st63⟩ := X62.specialBack hx (y := (⟨"com/example/cyclecut/cyclecut/graph/Graph$Builder", "<init>", "(I)V"⟩ : MethodName)) rfl hown (mvT hZ (hw _ (List.mem_of_getElem? (i := 3) rfl))) (mvT hZ (hw _ (List.mem_of_getElem? (i := 4) rfl))) (mvT hZ (hw _ (List.mem_of_getElem? (i := 5) rfl))) (by decide) (backOf (W := 1) (rm1 l Z a0 hw [] b62 v1 h62 n0 zp62 A62 F_vertexCount_b62 F_degree_b62 F_ends_b62 F_edgeCount_b62 g_b62 n2 n3) hZ (hw _ (List.mem_of_getElem? (i := 5) rfl)) (hw _ (List.mem_of_getElem? (i := 2) rfl)) (by decide) (by decide)) (g := (mkF m 125 #[.val (.int p1), .val (.int p2), .val (.int p3), .val (.int p4), .val (.int p5), .val (.int v1), .val (.int (1 : Int32)), .val (.int v56), .val (.int v57), .val (.int v58), .val (.int v59), .val (.int v60), .val (.int v61), .unset, .unset, .unset, .unset, .unset, .unset, .unset, .unset, .unset] [(.int v1), (.ref b62), (.ref b62)])) rfl (by rw [hml]; rfl) (Steps.refl _) (a := b62) (argsL := [(.int v1)]) (rest := [(.ref b62)]) (lenOf own_pd6 rfl) rfl (by show 2 * 0 + _ ≤ _; exact Nat.le_of_eq rfl) (hb hby at_125) (fun _ _ => ⟨rfl, e62, (by decide : 0 + 1 + 2 ≤ _), (by decide : 0 + 4 + 24 ≤ _)⟩)
      dsimp only [Pt.U, Pt.locs, Pt.cells, Pt.slots] at X63 l63 y63 z63 st63 hQ63
      subst l63 y63 z63
      obtain ⟨b63_0, b63_1, rfl, N63q, K63, ex63_0, fa63_0, fa63_1, fa63_2, fa63_3, gb63_0, ab63_0, eb63_0, gb63_1, ab63_1, eb63_1, ne_b63_0_b63_1⟩ := hQ63
      have N63 := Fr.app N0 N63q
      have g_b63_0 : n0 ≤ b63_0 := Nat.le_trans zp62 gb63_0
      have sz_b63_0 : h0.size ≤ b63_0 := Nat.le_trans kk62.1 gb63_0
      have ne_b62_b63_0 : b62 ≠ b63_0 := Nat.ne_of_lt (Nat.lt_of_lt_of_le A62.lt gb63_0)
      have g_b63_1 : n0 ≤ b63_1 := Nat.le_trans zp62 gb63_1
      have sz_b63_1 : h0.size ≤ b63_1 := Nat.le_trans kk62.1 gb63_1
      have ne_b62_b63_1 : b62 ≠ b63_1 := Nat.ne_of_lt (Nat.lt_of_lt_of_le A62.lt gb63_1)
      have kk63 : Keep h0 T63.heap [] := kk62.trans K63 (allS (Or.inr sz_b62) all0)
      have zp63 : n0 ≤ T63.heap.size := Nat.le_trans Z0 kk63.1
      generalize hw64 : (own_bi_degree v1) = w64 at ab63_0
      generalize hw65 : own_bi_ends = w65 at ab63_1
      refine own_go (fun tgt cont => st63.trans cont) ?_
      show own_Go p e below s (Q0 n0) room_1.cells room_1.slots (T63.setTop (mkF m 128 #[.val (.int p1), .val (.int p2), .val (.int p3), .val (.int p4), .val (.int p5), .val (.int v1), .val (.int (1 : Int32)), .val (.int v56), .val (.int v57), .val (.int v58), .val (.int v59), .val (.int v60), .val (.int v61), .unset, .unset, .unset, .unset, .unset, .unset, .unset, .unset, .unset] [(.ref b62)]))
      have DG0 : own_DG [] w64 v1.toNatClampNeg := by rw [← hw64]; exact own_DG0 _
      have al66 : own_IA Z T63.heap b63_1 [(0 : Int32), (0 : Int32), (0 : Int32), (0 : Int32), (0 : Int32), (0 : Int32), (0 : Int32), (0 : Int32), (0 : Int32), (0 : Int32), (0 : Int32), (0 : Int32), (0 : Int32), (0 : Int32), (0 : Int32), (0 : Int32)] := ab63_1.cong (hw65.symm.trans rfl)
      refine own_go (B := T63.setTop (mkF m 141 #[.val (.int p1), .val (.int p2), .val (.int p3), .val (.int p4), .val (.int p5), .val (.int v1), .val (.int (1 : Int32)), .val (.int v56), .val (.int v57), .val (.int v58), .val (.int v59), .val (.int v60), .val (.int v61), .val (.ref b62), .unset, .unset, .unset, .unset, .unset, .unset, .unset, .unset] [(.int v57), (.int v56), (.ref b62)])) (fun tgt cont => ?_) ?_
      · refine XS.astore X63.here hx rfl (hb hby at_128) rfl rfl (l' := #[.val (.int p1), .val (.int p2), .val (.int p3), .val (.int p4), .val (.int p5), .val (.int v1), .val (.int (1 : Int32)), .val (.int v56), .val (.int v57), .val (.int v58), .val (.int v59), .val (.int v60), .val (.int v61), .val (.ref b62), .unset, .unset, .unset, .unset, .unset, .unset, .unset, .unset]) rfl ?_
        refine XS.iload X63.here hx rfl (hb hby at_130) rfl ?_
        refine XS.ifNo X63.here hx rfl (hb hby at_132) rfl (XT.i0_le_f (by first | decide | exact (show 0 < (1 : Int32) from by decide))) ?_
        refine XS.aload X63.here hx rfl (hb hby at_135) rfl rfl ?_
        refine XS.iload X63.here hx rfl (hb hby at_137) rfl ?_
        refine XS.iload X63.here hx rfl (hb hby at_139) rfl ?_
        exact cont
      -- pc 141: Graph$Builder.addEdge
      obtain ⟨cq67, kq67, qa67, qb67, qc67⟩ := isOf hZ rfl ex63_0
      obtain ⟨_, _, ⟨T67, L67, k67, n67⟩, -, X67, ⟨Lc67, hQ67, l67, y67, z67⟩, st67⟩ := X63.virtualBack hx (y := (⟨"com/example/cyclecut/cyclecut/graph/Graph$Builder", "addEdge", "(II)I"⟩ : MethodName)) (z := (⟨"com/example/cyclecut/cyclecut/graph/Graph$Builder", "addEdge", "(II)I"⟩ : MethodName)) hown (mvT hZ (hw _ (List.mem_of_getElem? (i := 85) rfl))) (mvT hZ (hw _ (List.mem_of_getElem? (i := 86) rfl))) (notFace_of_selects (args := #[]) (mvT hZ (hw _ (List.mem_of_getElem? (i := 88) rfl)))) (mvT hZ (hw _ (List.mem_of_getElem? (i := 88) rfl))) (mvT hZ (hw _ (List.mem_of_getElem? (i := 87) rfl))) (by decide) (backOf (W := 0) (rm12_N l Z a0 hw [] b62 v56 v57 v1 b63_0 b63_1 (0 : Int32) w64 ([(0 : Int32), (0 : Int32), (0 : Int32), (0 : Int32), (0 : Int32), (0 : Int32), (0 : Int32), (0 : Int32), (0 : Int32), (0 : Int32), (0 : Int32), (0 : Int32), (0 : Int32), (0 : Int32), (0 : Int32), (0 : Int32)]) T63.heap n0 zp63 ex63_0 fa63_0 fa63_1 fa63_2 fa63_3 g_b62 ab63_0 g_b63_0 al66 g_b63_1 ne_b63_0_b63_1 B_v56.1 B_v56.2.1 B_v57.1 B_v57.2.1 (own_hg0 rfl) (own_c1_0 rfl) (own_c2_0 rfl) (own_dB DG0 B_v56) (own_dB DG0 B_v57)) hZ (hw _ (List.mem_of_getElem? (i := 89) rfl)) (hw _ (List.mem_of_getElem? (i := 2) rfl)) (by decide) (by decide)) qa67 qc67 (g := (mkF m 141 #[.val (.int p1), .val (.int p2), .val (.int p3), .val (.int p4), .val (.int p5), .val (.int v1), .val (.int (1 : Int32)), .val (.int v56), .val (.int v57), .val (.int v58), .val (.int v59), .val (.int v60), .val (.int v61), .val (.ref b62), .unset, .unset, .unset, .unset, .unset, .unset, .unset, .unset] [(.int v57), (.int v56), (.ref b62)])) rfl (by rw [hml]; rfl) (Steps.refl _) (argsL := [(.int v56), (.int v57)]) (rest := []) (lenOf own_pd1 rfl) rfl (by show 2 * 0 + _ ≤ _; exact Nat.le_of_eq rfl) (hb hby at_141) (fun _ _ => ⟨rfl, rfl, (by decide : 0 + 1 + 2 + 0 ≤ _), (by decide : 0 + 4 + 24 + 0 ≤ _)⟩)
      dsimp only [Pt.U, Pt.locs, Pt.cells, Pt.slots] at X67 l67 y67 z67 st67 hQ67
      subst l67 y67 z67
      obtain ⟨rfl, N67q, K67, ex67_0, fa67_0, fa67_1, fa67_2, fa67_3, fa67_4, fa67_5⟩ := hQ67
      have N67 := Fr.app N63 N67q
      have kk67 : Keep h0 T67.heap [] := kk63.trans K67 (allS (Or.inr sz_b62) (allS (Or.inr sz_b63_0) (allS (Or.inr sz_b63_1) all0)))
      have zp67 : n0 ≤ T67.heap.size := Nat.le_trans Z0 kk67.1
      generalize hw68 : (own_ae_edgeCount (0 : Int32)) = w68 at fa67_3
      generalize hw69 : (own_ae_ds v56 v57 w64) = w69 at fa67_4
      generalize hw70 : (own_ae_es v56 v57 (0 : Int32) [(0 : Int32), (0 : Int32), (0 : Int32), (0 : Int32), (0 : Int32), (0 : Int32), (0 : Int32), (0 : Int32), (0 : Int32), (0 : Int32), (0 : Int32), (0 : Int32), (0 : Int32), (0 : Int32), (0 : Int32), (0 : Int32)]) = w70 at fa67_5
      refine own_go (fun tgt cont => st67.trans cont) ?_
      show own_Go p e below s (Q0 n0) room_1.cells room_1.slots (T67.setTop (mkF m 144 #[.val (.int p1), .val (.int p2), .val (.int p3), .val (.int p4), .val (.int p5), .val (.int v1), .val (.int (1 : Int32)), .val (.int v56), .val (.int v57), .val (.int v58), .val (.int v59), .val (.int v60), .val (.int v61), .val (.ref b62), .unset, .unset, .unset, .unset, .unset, .unset, .unset, .unset] [(.int (0 : Int32))]))
      obtain rfl : w68 = (1 : Int32) := hw68.symm.trans own_ec0
      have DG1 : own_DG [v56, v57] w69 v1.toNatClampNeg := own_DGa DG0 B_v56 B_v57 hw69
      have al71 : own_IA Z T67.heap b63_1 [v56, v57, (0 : Int32), (0 : Int32), (0 : Int32), (0 : Int32), (0 : Int32), (0 : Int32), (0 : Int32), (0 : Int32), (0 : Int32), (0 : Int32), (0 : Int32), (0 : Int32), (0 : Int32), (0 : Int32)] := fa67_5.cong (hw70.symm.trans (own_es0 ..))
      refine own_go (B := T67.setTop (mkF m 179 #[.val (.int p1), .val (.int p2), .val (.int p3), .val (.int p4), .val (.int p5), .val (.int v1), .val (.int (1 : Int32)), .val (.int v56), .val (.int v57), .val (.int v58), .val (.int v59), .val (.int v60), .val (.int v61), .val (.ref b62), .unset, .unset, .unset, .unset, .unset, .unset, .unset, .unset] [(.ref b62)])) (fun tgt cont => ?_) ?_
      · refine XS.pop X67.here hx rfl (hb hby at_144) rfl rfl ?_
        refine XS.iload X67.here hx rfl (hb hby at_145) rfl ?_
        refine XT.iconstV X67.here hx rfl (1 : Int32) (hb hby at_147) rfl ?_
        refine XS.icmpYes X67.here hx rfl (pc0 := 148) (pc' := 161) rfl (hb hby at_148) rfl (XT.ii_le_t (by first | decide | exact (show ¬ ((1 : Int32) < (1 : Int32)) from by decide))) (by decide) (by decide) ?_
        refine XS.iload X67.here hx rfl (hb hby at_161) rfl ?_
        refine XT.iconstV X67.here hx rfl (2 : Int32) (hb hby at_163) rfl ?_
        refine XS.icmpYes X67.here hx rfl (pc0 := 164) (pc' := 177) rfl (hb hby at_164) rfl (XT.ii_le_t (by first | decide | exact (show ¬ ((2 : Int32) < (1 : Int32)) from by decide))) (by decide) (by decide) ?_
        refine XS.aload X67.here hx rfl (hb hby at_177) rfl rfl ?_
        exact cont
      -- pc 179: Graph$Builder.build
      have f73 := (eb63_0.keep K67)
      obtain ⟨cq72, kq72, qa72, qb72, qc72⟩ := isOf hZ rfl ex67_0
      obtain ⟨_, _, ⟨T72, L72, k72, n72⟩, -, X72, ⟨Lc72, hQ72, l72, y72, z72⟩, st72⟩ := X67.virtualBack hx (y := (⟨"com/example/cyclecut/cyclecut/graph/Graph$Builder", "build", "()Lcom/example/cyclecut/cyclecut/graph/Graph;"⟩ : MethodName)) (z := (⟨"com/example/cyclecut/cyclecut/graph/Graph$Builder", "build", "()Lcom/example/cyclecut/cyclecut/graph/Graph;"⟩ : MethodName)) hown (mvT hZ (hw _ (List.mem_of_getElem? (i := 16) rfl))) (mvT hZ (hw _ (List.mem_of_getElem? (i := 17) rfl))) (notFace_of_selects (args := #[]) (mvT hZ (hw _ (List.mem_of_getElem? (i := 19) rfl)))) (mvT hZ (hw _ (List.mem_of_getElem? (i := 19) rfl))) (mvT hZ (hw _ (List.mem_of_getElem? (i := 18) rfl))) (by decide) (backOf (W := 0) (rm3 l Z a0 hw [] b62 v1 b63_0 b63_1 (1 : Int32) w69 [v56, v57, (0 : Int32), (0 : Int32), (0 : Int32), (0 : Int32), (0 : Int32), (0 : Int32), (0 : Int32), (0 : Int32), (0 : Int32), (0 : Int32), (0 : Int32), (0 : Int32), (0 : Int32), (0 : Int32)] T67.heap n0 zp67 ex67_0 fa67_0 fa67_1 fa67_2 fa67_3 fa67_4 f73 al71 (own_hd_1 rfl) (by decide) (by decide) n2 n3 (own_hle_1 ..) DG1.1 (own_gb_1 n1 DG1)) hZ (hw _ (List.mem_of_getElem? (i := 20) rfl)) (hw _ (List.mem_of_getElem? (i := 2) rfl)) (by decide) (by decide)) qa72 qc72 (g := (mkF m 179 #[.val (.int p1), .val (.int p2), .val (.int p3), .val (.int p4), .val (.int p5), .val (.int v1), .val (.int (1 : Int32)), .val (.int v56), .val (.int v57), .val (.int v58), .val (.int v59), .val (.int v60), .val (.int v61), .val (.ref b62), .unset, .unset, .unset, .unset, .unset, .unset, .unset, .unset] [(.ref b62)])) rfl (by rw [hml]; rfl) (Steps.refl _) (argsL := []) (rest := []) (lenOf own_pd7 rfl) rfl (by show 2 * 0 + _ ≤ _; exact Nat.le_of_eq rfl) (hb hby at_179) (fun _ _ => ⟨rfl, rfl, (by decide : 0 + 1 + 2 + 0 + 7 ≤ _), (by decide : 0 + 4 + 24 + 0 + 150 ≤ _)⟩)
      dsimp only [Pt.U, Pt.locs, Pt.cells, Pt.slots] at X72 l72 y72 z72 st72 hQ72
      subst l72 y72 z72
      have f74 := (eb63_1.keep K67)
      obtain ⟨b72, xe72, xf72, xn72, xs72, rfl, N72q, K72, gb72, eg72, fl72_0, fl72_1, fl72_2, fl72_3, fl72_4, al72_0, al72_1, al72_2, al72_3⟩ := hQ72
      have N72 := Fr.app N67 N72q
      have kk72 : Keep h0 T72.heap [] := kk67.trans K72 all0
      have zp72 : n0 ≤ T72.heap.size := Nat.le_trans Z0 kk72.1
      generalize hw75 : (own_cof_l ((2 : Int32) * (1 : Int32)) [v56, v57, (0 : Int32), (0 : Int32), (0 : Int32), (0 : Int32), (0 : Int32), (0 : Int32), (0 : Int32), (0 : Int32), (0 : Int32), (0 : Int32), (0 : Int32), (0 : Int32), (0 : Int32), (0 : Int32)]) = w75 at al72_0
      generalize hw76 : (own_fsL w69 v1.toNatClampNeg (List.replicate (v1.toNatClampNeg + 1) 0)) = w76 at al72_1
      generalize hw77 : (own_l1 (own_cof_l ((2 : Int32) * (1 : Int32)) [v56, v57, (0 : Int32), (0 : Int32), (0 : Int32), (0 : Int32), (0 : Int32), (0 : Int32), (0 : Int32), (0 : Int32), (0 : Int32), (0 : Int32), (0 : Int32), (0 : Int32), (0 : Int32), (0 : Int32)]) (own_cof_l v1 (own_fsL w69 v1.toNatClampNeg (List.replicate (v1.toNatClampNeg + 1) 0))) (List.replicate (own_cof_l ((2 : Int32) * (1 : Int32)) [v56, v57, (0 : Int32), (0 : Int32), (0 : Int32), (0 : Int32), (0 : Int32), (0 : Int32), (0 : Int32), (0 : Int32), (0 : Int32), (0 : Int32), (0 : Int32), (0 : Int32), (0 : Int32), (0 : Int32)]).length 0) (own_cof_l ((2 : Int32) * (1 : Int32)) [v56, v57, (0 : Int32), (0 : Int32), (0 : Int32), (0 : Int32), (0 : Int32), (0 : Int32), (0 : Int32), (0 : Int32), (0 : Int32), (0 : Int32), (0 : Int32), (0 : Int32), (0 : Int32), (0 : Int32)]).length) = w77 at al72_2
      generalize hw78 : (own_l2 (own_cof_l ((2 : Int32) * (1 : Int32)) [v56, v57, (0 : Int32), (0 : Int32), (0 : Int32), (0 : Int32), (0 : Int32), (0 : Int32), (0 : Int32), (0 : Int32), (0 : Int32), (0 : Int32), (0 : Int32), (0 : Int32), (0 : Int32), (0 : Int32)]) (own_cof_l v1 (own_fsL w69 v1.toNatClampNeg (List.replicate (v1.toNatClampNeg + 1) 0))) (List.replicate (own_cof_l ((2 : Int32) * (1 : Int32)) [v56, v57, (0 : Int32), (0 : Int32), (0 : Int32), (0 : Int32), (0 : Int32), (0 : Int32), (0 : Int32), (0 : Int32), (0 : Int32), (0 : Int32), (0 : Int32), (0 : Int32), (0 : Int32), (0 : Int32)]).length 0) (own_cof_l ((2 : Int32) * (1 : Int32)) [v56, v57, (0 : Int32), (0 : Int32), (0 : Int32), (0 : Int32), (0 : Int32), (0 : Int32), (0 : Int32), (0 : Int32), (0 : Int32), (0 : Int32), (0 : Int32), (0 : Int32), (0 : Int32), (0 : Int32)]).length) = w78 at al72_3
      refine own_go (fun tgt cont => st72.trans cont) ?_
      show own_Go p e below s (Q0 n0) room_1.cells room_1.slots (T72.setTop (mkF m 182 #[.val (.int p1), .val (.int p2), .val (.int p3), .val (.int p4), .val (.int p5), .val (.int v1), .val (.int (1 : Int32)), .val (.int v56), .val (.int v57), .val (.int v58), .val (.int v59), .val (.int v60), .val (.int v61), .val (.ref b62), .unset, .unset, .unset, .unset, .unset, .unset, .unset, .unset] [(.ref b72)]))
      refine own_go (B := T72.setTop (mkF m 184 #[.val (.int p1), .val (.int p2), .val (.int p3), .val (.int p4), .val (.int p5), .val (.int v1), .val (.int (1 : Int32)), .val (.int v56), .val (.int v57), .val (.int v58), .val (.int v59), .val (.int v60), .val (.int v61), .val (.ref b62), .val (.ref b72), .unset, .unset, .unset, .unset, .unset, .unset, .unset] [])) (fun tgt cont => ?_) ?_
      · refine XS.astore X72.here hx rfl (hb hby at_182) rfl rfl (l' := #[.val (.int p1), .val (.int p2), .val (.int p3), .val (.int p4), .val (.int p5), .val (.int v1), .val (.int (1 : Int32)), .val (.int v56), .val (.int v57), .val (.int v58), .val (.int v59), .val (.int v60), .val (.int v61), .val (.ref b62), .val (.ref b72), .unset, .unset, .unset, .unset, .unset, .unset, .unset]) rfl ?_
        exact cont
      have le : w75 = [v56, v57] := hw75.symm.trans (own_LE_1 ..)
      have ll : w75.length = 2 := by rw [le]; rfl
      have GS : own_GS [v56, v57] v1.toNatClampNeg w76 w77 w78 := own_GSmk n1 DG1 (Nat.le_of_ble_eq_true rfl) (own_LE_1 ..) hw76 hw77 hw78
      refine own_go (B := T72.setTop (mkF m 186 #[.val (.int p1), .val (.int p2), .val (.int p3), .val (.int p4), .val (.int p5), .val (.int v1), .val (.int (1 : Int32)), .val (.int v56), .val (.int v57), .val (.int v58), .val (.int v59), .val (.int v60), .val (.int v61), .val (.ref b62), .val (.ref b72), .unset, .unset, .unset, .unset, .unset, .unset, .unset] [(.ref b72)])) (fun tgt cont => ?_) ?_
      · refine XS.aload X72.here hx rfl (hb hby at_184) rfl rfl ?_
        exact cont
      -- pc 186: Graph.vertexCount
      obtain ⟨cq79, kq79, qa79, qb79, qc79⟩ := isOf hZ rfl eg72
      obtain ⟨_, _, ⟨T79, L79, k79, n79⟩, -, X79, ⟨Lc79, hQ79, l79, y79, z79⟩, st79⟩ := X72.virtualBack hx (y := (⟨"com/example/cyclecut/cyclecut/graph/Graph", "vertexCount", "()I"⟩ : MethodName)) (z := (⟨"com/example/cyclecut/cyclecut/graph/Graph", "vertexCount", "()I"⟩ : MethodName)) hown (mvT hZ (hw _ (List.mem_of_getElem? (i := 62) rfl))) (mvT hZ (hw _ (List.mem_of_getElem? (i := 63) rfl))) (notFace_of_selects (args := #[]) (mvT hZ (hw _ (List.mem_of_getElem? (i := 65) rfl)))) (mvT hZ (hw _ (List.mem_of_getElem? (i := 65) rfl))) (mvT hZ (hw _ (List.mem_of_getElem? (i := 64) rfl))) (by decide) (backOf (W := 0) (rm7 l Z a0 hw [] b72 v1 T72.heap n0 zp72 eg72 fl72_0) hZ (hw _ (List.mem_of_getElem? (i := 66) rfl)) (hw _ (List.mem_of_getElem? (i := 23) rfl)) (by decide) (by decide)) qa79 qc79 (g := (mkF m 186 #[.val (.int p1), .val (.int p2), .val (.int p3), .val (.int p4), .val (.int p5), .val (.int v1), .val (.int (1 : Int32)), .val (.int v56), .val (.int v57), .val (.int v58), .val (.int v59), .val (.int v60), .val (.int v61), .val (.ref b62), .val (.ref b72), .unset, .unset, .unset, .unset, .unset, .unset, .unset] [(.ref b72)])) rfl (by rw [hml]; rfl) (Steps.refl _) (argsL := []) (rest := []) (lenOf own_pd4 rfl) rfl (by show 2 * 0 + _ ≤ _; exact Nat.le_of_eq rfl) (hb hby at_186) (fun _ _ => ⟨rfl, rfl, (by decide : 0 + 1 + 2 + 0 + 7 + 0 ≤ _), (by decide : 0 + 4 + 24 + 0 + 150 + 0 ≤ _)⟩)
      dsimp only [Pt.U, Pt.locs, Pt.cells, Pt.slots] at X79 l79 y79 z79 st79 hQ79
      subst l79 y79 z79
      obtain ⟨rfl, N79q, e79⟩ := hQ79
      have N79 := Fr.app N72 N79q
      refine own_go (fun tgt cont => st79.trans cont) ?_
      show own_Go p e below s (Q0 n0) room_1.cells room_1.slots (T79.setTop (mkF m 189 #[.val (.int p1), .val (.int p2), .val (.int p3), .val (.int p4), .val (.int p5), .val (.int v1), .val (.int (1 : Int32)), .val (.int v56), .val (.int v57), .val (.int v58), .val (.int v59), .val (.int v60), .val (.int v61), .val (.ref b62), .val (.ref b72), .unset, .unset, .unset, .unset, .unset, .unset, .unset] [(.int v1)]))
      refine own_go (B := T79.setTop (mkF m 196 #[.val (.int p1), .val (.int p2), .val (.int p3), .val (.int p4), .val (.int p5), .val (.int v1), .val (.int (1 : Int32)), .val (.int v56), .val (.int v57), .val (.int v58), .val (.int v59), .val (.int v60), .val (.int v61), .val (.ref b62), .val (.ref b72), .unset, .unset, .unset, .unset, .unset, .unset, .unset] [(.ref b72)])) (fun tgt cont => ?_) ?_
      · refine XS.iload X79.here hx rfl (hb hby at_189) rfl ?_
        refine XS.icmpNo X79.here hx rfl (hb hby at_191) rfl (XT.ii_ne_f rfl) ?_
        refine XS.aload X79.here hx rfl (hb hby at_194) rfl rfl ?_
        exact cont
      -- pc 196: Graph.edgeCount
      obtain ⟨cq80, kq80, qa80, qb80, qc80⟩ := isOf hZ e79 eg72
      obtain ⟨_, _, ⟨T80, L80, k80, n80⟩, -, X80, ⟨Lc80, hQ80, l80, y80, z80⟩, st80⟩ := X79.virtualBack hx (y := (⟨"com/example/cyclecut/cyclecut/graph/Graph", "edgeCount", "()I"⟩ : MethodName)) (z := (⟨"com/example/cyclecut/cyclecut/graph/Graph", "edgeCount", "()I"⟩ : MethodName)) hown (mvT hZ (hw _ (List.mem_of_getElem? (i := 67) rfl))) (mvT hZ (hw _ (List.mem_of_getElem? (i := 68) rfl))) (notFace_of_selects (args := #[]) (mvT hZ (hw _ (List.mem_of_getElem? (i := 70) rfl)))) (mvT hZ (hw _ (List.mem_of_getElem? (i := 70) rfl))) (mvT hZ (hw _ (List.mem_of_getElem? (i := 69) rfl))) (by decide) (backOf (W := 0) (rm8 l Z a0 hw [] b72 xe72 w75 T72.heap n0 zp72 eg72 fl72_1 al72_0) hZ (hw _ (List.mem_of_getElem? (i := 71) rfl)) (hw _ (List.mem_of_getElem? (i := 23) rfl)) (by decide) (by decide)) qa80 qc80 (g := (mkF m 196 #[.val (.int p1), .val (.int p2), .val (.int p3), .val (.int p4), .val (.int p5), .val (.int v1), .val (.int (1 : Int32)), .val (.int v56), .val (.int v57), .val (.int v58), .val (.int v59), .val (.int v60), .val (.int v61), .val (.ref b62), .val (.ref b72), .unset, .unset, .unset, .unset, .unset, .unset, .unset] [(.ref b72)])) rfl (by rw [hml]; rfl) (Steps.refl _) (argsL := []) (rest := []) (lenOf own_pd4 rfl) rfl (by show 2 * 0 + _ ≤ _; exact Nat.le_of_eq rfl) (hb hby at_196) (fun _ _ => ⟨rfl, e79, (by decide : 0 + 1 + 2 + 0 + 7 + 0 + 0 ≤ _), (by decide : 0 + 4 + 24 + 0 + 150 + 0 + 0 ≤ _)⟩)
      dsimp only [Pt.U, Pt.locs, Pt.cells, Pt.slots] at X80 l80 y80 z80 st80 hQ80
      subst l80 y80 z80
      obtain ⟨rfl, N80q, e80⟩ := hQ80
      have N80 := Fr.app N79 N80q
      refine own_go (fun tgt cont => st80.trans cont) ?_
      show own_Go p e below s (Q0 n0) room_1.cells room_1.slots (T80.setTop (mkF m 199 #[.val (.int p1), .val (.int p2), .val (.int p3), .val (.int p4), .val (.int p5), .val (.int v1), .val (.int (1 : Int32)), .val (.int v56), .val (.int v57), .val (.int v58), .val (.int v59), .val (.int v60), .val (.int v61), .val (.ref b62), .val (.ref b72), .unset, .unset, .unset, .unset, .unset, .unset, .unset] [(.int (own_gec_r w75))]))
      generalize hr81 : (own_gec_r w75) = r81
      refine own_go (B := T80.setTop (mkF m 221 #[.val (.int p1), .val (.int p2), .val (.int p3), .val (.int p4), .val (.int p5), .val (.int v1), .val (.int (1 : Int32)), .val (.int v56), .val (.int v57), .val (.int v58), .val (.int v59), .val (.int v60), .val (.int v61), .val (.ref b62), .val (.ref b72), .unset, .unset, .unset, .unset, .unset, .unset, .unset] [(.int ((p4 &&& (255 : Int32)) % v1))])) (fun tgt cont => ?_) ?_
      · refine XS.iload X80.here hx rfl (hb hby at_199) rfl ?_
        refine XS.icmpYes X80.here hx rfl (pc0 := 201) (pc' := 206) rfl (hb hby at_201) rfl (XT.ii_eq_t (by rw [← hr81]; exact own_gec_1 ll)) (by decide) (by decide) ?_
        refine XS.iload X80.here hx rfl (hb hby at_206) rfl ?_
        refine XS.ifYes X80.here hx rfl (pc0 := 208) (pc' := 213) rfl (hb hby at_208) rfl (XT.i0_ne_t hc2) (by decide) (by decide) ?_
        refine XS.iloadN X80.here hx rfl (hb hby at_213) rfl ?_
        refine XT.sipushV X80.here hx rfl (255 : Int32) (hb hby at_214) rfl ?_
        refine XS.iand X80.here hx rfl (hb hby at_217) rfl ?_
        refine XS.iload X80.here hx rfl (hb hby at_218) rfl ?_
        refine iremM X80 hx rfl (hb hby at_220) rfl (own_n3c m1) ?_
        exact cont
      generalize hv82 : ((p4 &&& (255 : Int32)) % v1) = v82
      refine own_go (B := T80.setTop (mkF m 223 #[.val (.int p1), .val (.int p2), .val (.int p3), .val (.int p4), .val (.int p5), .val (.int v1), .val (.int (1 : Int32)), .val (.int v56), .val (.int v57), .val (.int v58), .val (.int v59), .val (.int v60), .val (.int v61), .val (.ref b62), .val (.ref b72), .val (.int v82), .unset, .unset, .unset, .unset, .unset, .unset] [])) (fun tgt cont => ?_) ?_
      · refine XS.istore X80.here hx rfl (hb hby at_221) rfl (l' := #[.val (.int p1), .val (.int p2), .val (.int p3), .val (.int p4), .val (.int p5), .val (.int v1), .val (.int (1 : Int32)), .val (.int v56), .val (.int v57), .val (.int v58), .val (.int v59), .val (.int v60), .val (.int v61), .val (.ref b62), .val (.ref b72), .val (.int v82), .unset, .unset, .unset, .unset, .unset, .unset]) rfl ?_
        exact cont
      have B_v82 : own_be v82 v1 := by rw [← hv82]; exact own_b255 m1
      refine own_go (B := T80.setTop (mkF m 225 #[.val (.int p1), .val (.int p2), .val (.int p3), .val (.int p4), .val (.int p5), .val (.int v1), .val (.int (1 : Int32)), .val (.int v56), .val (.int v57), .val (.int v58), .val (.int v59), .val (.int v60), .val (.int v61), .val (.ref b62), .val (.ref b72), .val (.int v82), .unset, .unset, .unset, .unset, .unset, .unset] [(.int (6 : Int32))])) (fun tgt cont => ?_) ?_
      · refine XT.bipushV X80.here hx rfl (6 : Int32) (hb hby at_223) rfl ?_
        exact cont
      have f84 := (ex67_0.keep K72)
      have f85 := (f73.keep K72)
      have f86 := (f74.keep K72)
      obtain ⟨T83, h83, X83, e83, E83, A83, AE83, st83⟩ := own_newIA X80 hx hZ (hw _ (List.mem_of_getElem? (i := 9) rfl)) e80 (g := (mkF m 225 #[.val (.int p1), .val (.int p2), .val (.int p3), .val (.int p4), .val (.int p5), .val (.int v1), .val (.int (1 : Int32)), .val (.int v56), .val (.int v57), .val (.int v58), .val (.int v59), .val (.int v60), .val (.int v61), .val (.ref b62), .val (.ref b72), .val (.int v82), .unset, .unset, .unset, .unset, .unset, .unset] [(.int (6 : Int32))])) rfl (hb hby at_225) rfl (by decide) (cap := 6) (by decide) (by decide) (by decide) (by decide)
      obtain ⟨b83, g83⟩ : ∃ z, z = T72.heap.size := ⟨_, rfl⟩
      rw [← g83] at A83 AE83 st83
      have g_b83 : n0 ≤ b83 := Nat.le_trans zp72 (Nat.le_of_eq g83.symm)
      have sz_b83 : h0.size ≤ b83 := Nat.le_trans kk72.1 (Nat.le_of_eq g83.symm)
      have ne_b62_b83 : b62 ≠ b83 := Nat.ne_of_lt (by rw [g83]; exact f84.lt)
      have ne_b63_0_b83 : b63_0 ≠ b83 := Nat.ne_of_lt (by rw [g83]; exact f85.lt)
      have ne_b63_1_b83 : b63_1 ≠ b83 := Nat.ne_of_lt (by rw [g83]; exact f86.lt)
      have ne_b72_b83 : b72 ≠ b83 := Nat.ne_of_lt (by rw [g83]; exact eg72.lt)
      have ne_xe72_b83 : xe72 ≠ b83 := Nat.ne_of_lt (by rw [g83]; exact al72_0.lt)
      have ne_xf72_b83 : xf72 ≠ b83 := Nat.ne_of_lt (by rw [g83]; exact al72_1.lt)
      have ne_xn72_b83 : xn72 ≠ b83 := Nat.ne_of_lt (by rw [g83]; exact al72_2.lt)
      have ne_xs72_b83 : xs72 ≠ b83 := Nat.ne_of_lt (by rw [g83]; exact al72_3.lt)
      have kk83 : Keep h0 h83 [] := kk72.ext E83
      have zp83 : n0 ≤ h83.size := Nat.le_trans Z0 kk83.1
      have A83v : own_IA Z h83 b83 [(0 : Int32), (0 : Int32), (0 : Int32), (0 : Int32), (0 : Int32), (0 : Int32)] := A83
      refine own_go (fun tgt cont => st83 tgt cont) ?_
      show own_Go p e below s (Q0 n0) room_1.cells room_1.slots (T83.setTop (mkF m 227 #[.val (.int p1), .val (.int p2), .val (.int p3), .val (.int p4), .val (.int p5), .val (.int v1), .val (.int (1 : Int32)), .val (.int v56), .val (.int v57), .val (.int v58), .val (.int v59), .val (.int v60), .val (.int v61), .val (.ref b62), .val (.ref b72), .val (.int v82), .unset, .unset, .unset, .unset, .unset, .unset] [(.ref b83)]))
      refine own_go (B := T83.setTop (mkF m 231 #[.val (.int p1), .val (.int p2), .val (.int p3), .val (.int p4), .val (.int p5), .val (.int v1), .val (.int (1 : Int32)), .val (.int v56), .val (.int v57), .val (.int v58), .val (.int v59), .val (.int v60), .val (.int v61), .val (.ref b62), .val (.ref b72), .val (.int v82), .val (.ref b83), .unset, .unset, .unset, .unset, .unset] [(.int (6 : Int32))])) (fun tgt cont => ?_) ?_
      · refine XS.astore X83.here hx rfl (hb hby at_227) rfl rfl (l' := #[.val (.int p1), .val (.int p2), .val (.int p3), .val (.int p4), .val (.int p5), .val (.int v1), .val (.int (1 : Int32)), .val (.int v56), .val (.int v57), .val (.int v58), .val (.int v59), .val (.int v60), .val (.int v61), .val (.ref b62), .val (.ref b72), .val (.int v82), .val (.ref b83), .unset, .unset, .unset, .unset, .unset]) rfl ?_
        refine XT.bipushV X83.here hx rfl (6 : Int32) (hb hby at_229) rfl ?_
        exact cont
      have f88 := (f84.ext E83)
      have f89 := (f85.ext E83)
      have f90 := (f86.ext E83)
      have f91 := (eg72.ext E83)
      have f92 := (al72_0.ext E83)
      have f93 := (al72_1.ext E83)
      have f94 := (al72_2.ext E83)
      have f95 := (al72_3.ext E83)
      obtain ⟨T87, h87, X87, e87, E87, A87, AE87, st87⟩ := own_newIA X83 hx hZ (hw _ (List.mem_of_getElem? (i := 9) rfl)) e83 (g := (mkF m 231 #[.val (.int p1), .val (.int p2), .val (.int p3), .val (.int p4), .val (.int p5), .val (.int v1), .val (.int (1 : Int32)), .val (.int v56), .val (.int v57), .val (.int v58), .val (.int v59), .val (.int v60), .val (.int v61), .val (.ref b62), .val (.ref b72), .val (.int v82), .val (.ref b83), .unset, .unset, .unset, .unset, .unset] [(.int (6 : Int32))])) rfl (hb hby at_231) rfl (by decide) (cap := 6) (by decide) (by decide) (by decide) (by decide)
      obtain ⟨b87, g87⟩ : ∃ z, z = h83.size := ⟨_, rfl⟩
      rw [← g87] at A87 AE87 st87
      have g_b87 : n0 ≤ b87 := Nat.le_trans zp83 (Nat.le_of_eq g87.symm)
      have sz_b87 : h0.size ≤ b87 := Nat.le_trans kk83.1 (Nat.le_of_eq g87.symm)
      have ne_b62_b87 : b62 ≠ b87 := Nat.ne_of_lt (by rw [g87]; exact f88.lt)
      have ne_b63_0_b87 : b63_0 ≠ b87 := Nat.ne_of_lt (by rw [g87]; exact f89.lt)
      have ne_b63_1_b87 : b63_1 ≠ b87 := Nat.ne_of_lt (by rw [g87]; exact f90.lt)
      have ne_b72_b87 : b72 ≠ b87 := Nat.ne_of_lt (by rw [g87]; exact f91.lt)
      have ne_xe72_b87 : xe72 ≠ b87 := Nat.ne_of_lt (by rw [g87]; exact f92.lt)
      have ne_xf72_b87 : xf72 ≠ b87 := Nat.ne_of_lt (by rw [g87]; exact f93.lt)
      have ne_xn72_b87 : xn72 ≠ b87 := Nat.ne_of_lt (by rw [g87]; exact f94.lt)
      have ne_xs72_b87 : xs72 ≠ b87 := Nat.ne_of_lt (by rw [g87]; exact f95.lt)
      have ne_b83_b87 : b83 ≠ b87 := Nat.ne_of_lt (by rw [g87]; exact A83v.lt)
      have kk87 : Keep h0 h87 [] := kk83.ext E87
      have zp87 : n0 ≤ h87.size := Nat.le_trans Z0 kk87.1
      have A87v : own_IA Z h87 b87 [(0 : Int32), (0 : Int32), (0 : Int32), (0 : Int32), (0 : Int32), (0 : Int32)] := A87
      refine own_go (fun tgt cont => st87 tgt cont) ?_
      show own_Go p e below s (Q0 n0) room_1.cells room_1.slots (T87.setTop (mkF m 233 #[.val (.int p1), .val (.int p2), .val (.int p3), .val (.int p4), .val (.int p5), .val (.int v1), .val (.int (1 : Int32)), .val (.int v56), .val (.int v57), .val (.int v58), .val (.int v59), .val (.int v60), .val (.int v61), .val (.ref b62), .val (.ref b72), .val (.int v82), .val (.ref b83), .unset, .unset, .unset, .unset, .unset] [(.ref b87)]))
      refine own_go (B := T87.setTop (mkF m 235 #[.val (.int p1), .val (.int p2), .val (.int p3), .val (.int p4), .val (.int p5), .val (.int v1), .val (.int (1 : Int32)), .val (.int v56), .val (.int v57), .val (.int v58), .val (.int v59), .val (.int v60), .val (.int v61), .val (.ref b62), .val (.ref b72), .val (.int v82), .val (.ref b83), .val (.ref b87), .unset, .unset, .unset, .unset] [])) (fun tgt cont => ?_) ?_
      · refine XS.astore X87.here hx rfl (hb hby at_233) rfl rfl (l' := #[.val (.int p1), .val (.int p2), .val (.int p3), .val (.int p4), .val (.int p5), .val (.int v1), .val (.int (1 : Int32)), .val (.int v56), .val (.int v57), .val (.int v58), .val (.int v59), .val (.int v60), .val (.int v61), .val (.ref b62), .val (.ref b72), .val (.int v82), .val (.ref b83), .val (.ref b87), .unset, .unset, .unset, .unset]) rfl ?_
        exact cont
      have NB0 : own_NB [] (own_f [v56, v57]) own_h v82 (0 : Int32) [(0 : Int32), (0 : Int32), (0 : Int32), (0 : Int32), (0 : Int32), (0 : Int32)] [(0 : Int32), (0 : Int32), (0 : Int32), (0 : Int32), (0 : Int32), (0 : Int32)] := own_NB0 _ _ _ rfl rfl
      refine own_go (B := T87.setTop (mkF m 254 #[.val (.int p1), .val (.int p2), .val (.int p3), .val (.int p4), .val (.int p5), .val (.int v1), .val (.int (1 : Int32)), .val (.int v56), .val (.int v57), .val (.int v58), .val (.int v59), .val (.int v60), .val (.int v61), .val (.ref b62), .val (.ref b72), .val (.int v82), .val (.ref b83), .val (.ref b87), .val (.int (0 : Int32)), .unset, .unset, .unset] [(.int v56), (.int (0 : Int32)), (.int v82), (.int (0 : Int32)), (.ref b87), (.ref b83)])) (fun tgt cont => ?_) ?_
      · refine XT.iconstV X87.here hx rfl (0 : Int32) (hb hby at_235) rfl ?_
        refine XS.istore X87.here hx rfl (hb hby at_236) rfl (l' := #[.val (.int p1), .val (.int p2), .val (.int p3), .val (.int p4), .val (.int p5), .val (.int v1), .val (.int (1 : Int32)), .val (.int v56), .val (.int v57), .val (.int v58), .val (.int v59), .val (.int v60), .val (.int v61), .val (.ref b62), .val (.ref b72), .val (.int v82), .val (.ref b83), .val (.ref b87), .val (.int (0 : Int32)), .unset, .unset, .unset]) rfl ?_
        refine XS.iload X87.here hx rfl (hb hby at_238) rfl ?_
        refine XS.ifNo X87.here hx rfl (hb hby at_240) rfl (XT.i0_le_f (by first | decide | exact (show 0 < (1 : Int32) from by decide))) ?_
        refine XS.aload X87.here hx rfl (hb hby at_243) rfl rfl ?_
        refine XS.aload X87.here hx rfl (hb hby at_245) rfl rfl ?_
        refine XS.iload X87.here hx rfl (hb hby at_247) rfl ?_
        refine XS.iload X87.here hx rfl (hb hby at_249) rfl ?_
        refine XT.iconstV X87.here hx rfl (0 : Int32) (hb hby at_251) rfl ?_
        refine XS.iload X87.here hx rfl (hb hby at_252) rfl ?_
        exact cont
      refine own_go (B := T87.setTop (mkF m 256 #[.val (.int p1), .val (.int p2), .val (.int p3), .val (.int p4), .val (.int p5), .val (.int v1), .val (.int (1 : Int32)), .val (.int v56), .val (.int v57), .val (.int v58), .val (.int v59), .val (.int v60), .val (.int v61), .val (.ref b62), .val (.ref b72), .val (.int v82), .val (.ref b83), .val (.ref b87), .val (.int (0 : Int32)), .unset, .unset, .unset] [(.int v57), (.int v56), (.int (0 : Int32)), (.int v82), (.int (0 : Int32)), (.ref b87), (.ref b83)])) (fun tgt cont => ?_) ?_
      · refine XS.iload X87.here hx rfl (hb hby at_254) rfl ?_
        exact cont
      have IC0 := own_icB NB0 (Nat.le_of_ble_eq_true rfl)
      -- pc 256: GraphBuilderBuildPinLaw.inc
      have f97 := (A83v.ext E87)
      obtain ⟨_, _, ⟨T96, L96, k96, n96⟩, -, X96, ⟨Lc96, hQ96, l96, y96, z96⟩, st96⟩ := Jvm.LawKit.callS X87 hx (y := (⟨"com/example/cyclecut/cyclecut/graph/GraphBuilderBuildPinLaw", "inc", "([I[IIIIII)I"⟩ : MethodName)) hown (mvT hZ (hw _ (List.mem_of_getElem? (i := 91) rfl))) (mvT hZ (hw _ (List.mem_of_getElem? (i := 92) rfl))) (mvT hZ (hw _ (List.mem_of_getElem? (i := 93) rfl))) (mvT hZ (hw _ (List.mem_of_getElem? (i := 94) rfl))) (by decide) (backOf (W := 0) (rm13 l Z a0 hw [] b83 b87 (0 : Int32) v82 (0 : Int32) v56 v57 ([(0 : Int32), (0 : Int32), (0 : Int32), (0 : Int32), (0 : Int32), (0 : Int32)]) ([(0 : Int32), (0 : Int32), (0 : Int32), (0 : Int32), (0 : Int32), (0 : Int32)]) h87 n0 zp87 f97 g_b83 A87v g_b87 ne_b83_b87 IC0.1 IC0.2.1 IC0.2.2.1 IC0.2.2.2) hZ (hw _ (List.mem_of_getElem? (i := 94) rfl)) (hw _ (List.mem_of_getElem? (i := 93) rfl)) (by decide) (by decide)) (g := (mkF m 256 #[.val (.int p1), .val (.int p2), .val (.int p3), .val (.int p4), .val (.int p5), .val (.int v1), .val (.int (1 : Int32)), .val (.int v56), .val (.int v57), .val (.int v58), .val (.int v59), .val (.int v60), .val (.int v61), .val (.ref b62), .val (.ref b72), .val (.int v82), .val (.ref b83), .val (.ref b87), .val (.int (0 : Int32)), .unset, .unset, .unset] [(.int v57), (.int v56), (.int (0 : Int32)), (.int v82), (.int (0 : Int32)), (.ref b87), (.ref b83)])) rfl (by rw [hml]; rfl) (argsL := [(.ref b83), (.ref b87), (.int (0 : Int32)), (.int v82), (.int (0 : Int32)), (.int v56), (.int v57)]) (rest := []) (lenOf own_pd8 rfl) rfl (by show 2 * 0 + _ ≤ _; exact Nat.le_of_eq rfl) (hb hby at_256) (fun _ _ => ⟨rfl, e87, (by decide : 0 + 1 + 2 + 0 + 7 + 0 + 0 + 1 + 1 + 0 ≤ _), (by decide : 0 + 4 + 24 + 0 + 150 + 0 + 0 + 6 + 6 + 0 ≤ _)⟩)
      dsimp only [Pt.U, Pt.locs, Pt.cells, Pt.slots] at X96 l96 y96 z96 st96 hQ96
      subst l96 y96 z96
      obtain ⟨rfl, N96q, K96, fa96_0, fa96_1⟩ := hQ96
      have N96 := Fr.app N80 N96q
      have kk96 : Keep h0 T96.heap [] := kk87.trans K96 (allS (Or.inr sz_b83) (allS (Or.inr sz_b87) all0))
      have zp96 : n0 ≤ T96.heap.size := Nat.le_trans Z0 kk96.1
      generalize hw98 : (own_inc_ns (0 : Int32) v82 v56 v57 [(0 : Int32), (0 : Int32), (0 : Int32), (0 : Int32), (0 : Int32), (0 : Int32)]) = w98 at fa96_0
      generalize hw99 : (own_inc_ms (0 : Int32) v82 (0 : Int32) v56 v57 [(0 : Int32), (0 : Int32), (0 : Int32), (0 : Int32), (0 : Int32), (0 : Int32)]) = w99 at fa96_1
      refine own_go (fun tgt cont => st96 tgt cont) ?_
      show own_Go p e below s (Q0 n0) room_1.cells room_1.slots (T96.setTop (mkF m 259 #[.val (.int p1), .val (.int p2), .val (.int p3), .val (.int p4), .val (.int p5), .val (.int v1), .val (.int (1 : Int32)), .val (.int v56), .val (.int v57), .val (.int v58), .val (.int v59), .val (.int v60), .val (.int v61), .val (.ref b62), .val (.ref b72), .val (.int v82), .val (.ref b83), .val (.ref b87), .val (.int (0 : Int32)), .unset, .unset, .unset] [(.int (own_inc_r (0 : Int32) v82 v56 v57))]))
      generalize hr100 : (own_inc_r (0 : Int32) v82 v56 v57) = r100
      have NB1 : own_NB [v56, v57] (own_f [v56, v57]) own_h v82 r100 w98 w99 := own_inE NB0 B_v56.1 B_v57.1 B_v82.1 0 1 rfl rfl (by decide) rfl rfl rfl rfl hr100 hw98 hw99
      refine own_go (B := T96.setTop (mkF m 313 #[.val (.int p1), .val (.int p2), .val (.int p3), .val (.int p4), .val (.int p5), .val (.int v1), .val (.int (1 : Int32)), .val (.int v56), .val (.int v57), .val (.int v58), .val (.int v59), .val (.int v60), .val (.int v61), .val (.ref b62), .val (.ref b72), .val (.int v82), .val (.ref b83), .val (.ref b87), .val (.int r100), .unset, .unset, .unset] [(.int v82), (.ref b72)])) (fun tgt cont => ?_) ?_
      · refine XS.istore X96.here hx rfl (hb hby at_259) rfl (l' := #[.val (.int p1), .val (.int p2), .val (.int p3), .val (.int p4), .val (.int p5), .val (.int v1), .val (.int (1 : Int32)), .val (.int v56), .val (.int v57), .val (.int v58), .val (.int v59), .val (.int v60), .val (.int v61), .val (.ref b62), .val (.ref b72), .val (.int v82), .val (.ref b83), .val (.ref b87), .val (.int r100), .unset, .unset, .unset]) rfl ?_
        refine XS.iload X96.here hx rfl (hb hby at_261) rfl ?_
        refine XT.iconstV X96.here hx rfl (1 : Int32) (hb hby at_263) rfl ?_
        refine XS.icmpYes X96.here hx rfl (pc0 := 264) (pc' := 285) rfl (hb hby at_264) rfl (XT.ii_le_t (by first | decide | exact (show ¬ ((1 : Int32) < (1 : Int32)) from by decide))) (by decide) (by decide) ?_
        refine XS.iload X96.here hx rfl (hb hby at_285) rfl ?_
        refine XT.iconstV X96.here hx rfl (2 : Int32) (hb hby at_287) rfl ?_
        refine XS.icmpYes X96.here hx rfl (pc0 := 288) (pc' := 309) rfl (hb hby at_288) rfl (XT.ii_le_t (by first | decide | exact (show ¬ ((2 : Int32) < (1 : Int32)) from by decide))) (by decide) (by decide) ?_
        refine XS.aload X96.here hx rfl (hb hby at_309) rfl rfl ?_
        refine XS.iload X96.here hx rfl (hb hby at_311) rfl ?_
        exact cont
      -- pc 313: Graph.degree
      have f102 := ((f91.ext E87).keep K96)
      have f103 := (((fl72_0.ext E83).ext E87).keep K96 (ninS ne_b72_b83 (ninS ne_b72_b87 nin0)))
      have f104 := (((fl72_2.ext E83).ext E87).keep K96 (ninS ne_b72_b83 (ninS ne_b72_b87 nin0)))
      have f105 := ((f93.ext E87).keep K96 (ninS ne_xf72_b83 (ninS ne_xf72_b87 nin0)))
      obtain ⟨cq101, kq101, qa101, qb101, qc101⟩ := isOf hZ rfl f102
      obtain ⟨_, _, ⟨T101, L101, k101, n101⟩, -, X101, ⟨Lc101, hQ101, l101, y101, z101⟩, st101⟩ := X96.virtualBack hx (y := (⟨"com/example/cyclecut/cyclecut/graph/Graph", "degree", "(I)I"⟩ : MethodName)) (z := (⟨"com/example/cyclecut/cyclecut/graph/Graph", "degree", "(I)I"⟩ : MethodName)) hown (mvT hZ (hw _ (List.mem_of_getElem? (i := 72) rfl))) (mvT hZ (hw _ (List.mem_of_getElem? (i := 73) rfl))) (notFace_of_selects (args := #[]) (mvT hZ (hw _ (List.mem_of_getElem? (i := 75) rfl)))) (mvT hZ (hw _ (List.mem_of_getElem? (i := 75) rfl))) (mvT hZ (hw _ (List.mem_of_getElem? (i := 74) rfl))) (by decide) (backOf (W := 0) (rm9 l Z a0 hw [] b72 v82 v1 xf72 w76 T96.heap n0 zp96 f102 f103 f104 f105 B_v82.1 B_v82.2.1 (own_g3 n1 GS B_v82) (own_g4 n1 GS B_v82)) hZ (hw _ (List.mem_of_getElem? (i := 76) rfl)) (hw _ (List.mem_of_getElem? (i := 23) rfl)) (by decide) (by decide)) qa101 qc101 (g := (mkF m 313 #[.val (.int p1), .val (.int p2), .val (.int p3), .val (.int p4), .val (.int p5), .val (.int v1), .val (.int (1 : Int32)), .val (.int v56), .val (.int v57), .val (.int v58), .val (.int v59), .val (.int v60), .val (.int v61), .val (.ref b62), .val (.ref b72), .val (.int v82), .val (.ref b83), .val (.ref b87), .val (.int r100), .unset, .unset, .unset] [(.int v82), (.ref b72)])) rfl (by rw [hml]; rfl) (Steps.refl _) (argsL := [(.int v82)]) (rest := []) (lenOf own_pd5 rfl) rfl (by show 2 * 0 + _ ≤ _; exact Nat.le_of_eq rfl) (hb hby at_313) (fun _ _ => ⟨rfl, rfl, (by decide : 0 + 1 + 2 + 0 + 7 + 0 + 0 + 1 + 1 + 0 + 0 ≤ _), (by decide : 0 + 4 + 24 + 0 + 150 + 0 + 0 + 6 + 6 + 0 + 0 ≤ _)⟩)
      dsimp only [Pt.U, Pt.locs, Pt.cells, Pt.slots] at X101 l101 y101 z101 st101 hQ101
      subst l101 y101 z101
      obtain ⟨rfl, N101q, e101⟩ := hQ101
      have N101 := Fr.app N96 N101q
      refine own_go (fun tgt cont => st101.trans cont) ?_
      show own_Go p e below s (Q0 n0) room_1.cells room_1.slots (T101.setTop (mkF m 316 #[.val (.int p1), .val (.int p2), .val (.int p3), .val (.int p4), .val (.int p5), .val (.int v1), .val (.int (1 : Int32)), .val (.int v56), .val (.int v57), .val (.int v58), .val (.int v59), .val (.int v60), .val (.int v61), .val (.ref b62), .val (.ref b72), .val (.int v82), .val (.ref b83), .val (.ref b87), .val (.int r100), .unset, .unset, .unset] [(.int (own_gdg_r v82 v1 w76))]))
      generalize hr106 : (own_gdg_r v82 v1 w76) = r106
      refine own_go (B := T101.setTop (mkF m 325 #[.val (.int p1), .val (.int p2), .val (.int p3), .val (.int p4), .val (.int p5), .val (.int v1), .val (.int (1 : Int32)), .val (.int v56), .val (.int v57), .val (.int v58), .val (.int v59), .val (.int v60), .val (.int v61), .val (.ref b62), .val (.ref b72), .val (.int v82), .val (.ref b83), .val (.ref b87), .val (.int r100), .unset, .unset, .unset] [(.int r100)])) (fun tgt cont => ?_) ?_
      · refine XS.iload X101.here hx rfl (hb hby at_316) rfl ?_
        refine XS.icmpYes X101.here hx rfl (pc0 := 318) (pc' := 323) rfl (hb hby at_318) rfl (XT.ii_eq_t (by rw [← hr106]; exact (own_degE n1 GS B_v82).trans NB1.2.2.1.symm)) (by decide) (by decide) ?_
        refine XS.iload X101.here hx rfl (hb hby at_323) rfl ?_
        exact cont
      have K107 : ∀ (T107 : State) (L107 : List Loc) (o108 : Slot) (X107 : Stand p l e room_1 s m #[(.int p1), (.int p2), (.int p3), (.int p4), (.int p5)] below meth c T107 L107 12 190) (e107 : T107.heap = T96.heap) (N107 : Fr n0 L107) (ho108 : o108 = .unset ∨ ∃ w, o108 = .val w ∧ w.category = 1), own_Go p e below s (Q0 n0) room_1.cells room_1.slots (T107.setTop (mkF m 377 #[.val (.int p1), .val (.int p2), .val (.int p3), .val (.int p4), .val (.int p5), .val (.int v1), .val (.int (1 : Int32)), .val (.int v56), .val (.int v57), .val (.int v58), .val (.int v59), .val (.int v60), .val (.int v61), .val (.ref b62), .val (.ref b72), .val (.int v82), .val (.ref b83), .val (.ref b87), .val (.int r100), o108, .unset, .unset] [])) := by
        intro T107 L107 o108 X107 e107 N107 ho108
        refine own_go (B := T107.setTop (mkF m 391 #[.val (.int p1), .val (.int p2), .val (.int p3), .val (.int p4), .val (.int p5), .val (.int v1), .val (.int (1 : Int32)), .val (.int v56), .val (.int v57), .val (.int v58), .val (.int v59), .val (.int v60), .val (.int v61), .val (.ref b62), .val (.ref b72), .val (.int v82), .val (.ref b83), .val (.ref b87), .val (.int r100), o108, .unset, .unset] [(.int ((p5 &&& (255 : Int32)) % (1 : Int32)))])) (fun tgt cont => ?_) ?_
        · refine XS.iload X107.here hx rfl (hb hby at_377) rfl ?_
          refine XS.ifNo X107.here hx rfl (hb hby at_379) rfl (XT.i0_le_f (by first | decide | exact (show 0 < (1 : Int32) from by decide))) ?_
          refine XS.iload X107.here hx rfl (hb hby at_382) rfl ?_
          refine XT.sipushV X107.here hx rfl (255 : Int32) (hb hby at_384) rfl ?_
          refine XS.iand X107.here hx rfl (hb hby at_387) rfl ?_
          refine XS.iload X107.here hx rfl (hb hby at_388) rfl ?_
          refine iremM X107 hx rfl (hb hby at_390) rfl (by decide) ?_
          exact cont
        generalize hv109 : ((p5 &&& (255 : Int32)) % (1 : Int32)) = v109
        refine own_go (B := T107.setTop (mkF m 393 #[.val (.int p1), .val (.int p2), .val (.int p3), .val (.int p4), .val (.int p5), .val (.int v1), .val (.int (1 : Int32)), .val (.int v56), .val (.int v57), .val (.int v58), .val (.int v59), .val (.int v60), .val (.int v61), .val (.ref b62), .val (.ref b72), .val (.int v82), .val (.ref b83), .val (.ref b87), .val (.int r100), .val (.int v109), .unset, .unset] [])) (fun tgt cont => ?_) ?_
        · refine XS.istore X107.here hx rfl (hb hby at_391) rfl (l' := #[.val (.int p1), .val (.int p2), .val (.int p3), .val (.int p4), .val (.int p5), .val (.int v1), .val (.int (1 : Int32)), .val (.int v56), .val (.int v57), .val (.int v58), .val (.int v59), .val (.int v60), .val (.int v61), .val (.ref b62), .val (.ref b72), .val (.int v82), .val (.ref b83), .val (.ref b87), .val (.int r100), .val (.int v109), .unset, .unset]) (XS.store1 (o := o108) rfl ho108 rfl) ?_
          exact cont
        have ee : v109 = (0 : Int32) := by rw [← hv109]; exact own_ek1 _
        rcases ee with rfl
        ·
          refine own_go (B := T107.setTop (mkF m 443 #[.val (.int p1), .val (.int p2), .val (.int p3), .val (.int p4), .val (.int p5), .val (.int v1), .val (.int (1 : Int32)), .val (.int v56), .val (.int v57), .val (.int v58), .val (.int v59), .val (.int v60), .val (.int v61), .val (.ref b62), .val (.ref b72), .val (.int v82), .val (.ref b83), .val (.ref b87), .val (.int r100), .val (.int (0 : Int32)), .val (.int v56), .val (.int v57)] [])) (fun tgt cont => ?_) ?_
          · refine XS.iload X107.here hx rfl (hb hby at_393) rfl ?_
            refine XS.ifNo X107.here hx rfl (hb hby at_395) rfl (XT.i0_ne_f (by first | decide | exact (show (0 : Int32) = 0 from by decide))) ?_
            refine XS.iload X107.here hx rfl (hb hby at_398) rfl ?_
            refine XS.goto X107.here hx rfl (pc0 := 400) (pc' := 416) rfl (hb hby at_400) (by decide) (by decide) ?_
            refine XS.istore X107.here hx rfl (hb hby at_416) rfl (l' := #[.val (.int p1), .val (.int p2), .val (.int p3), .val (.int p4), .val (.int p5), .val (.int v1), .val (.int (1 : Int32)), .val (.int v56), .val (.int v57), .val (.int v58), .val (.int v59), .val (.int v60), .val (.int v61), .val (.ref b62), .val (.ref b72), .val (.int v82), .val (.ref b83), .val (.ref b87), .val (.int r100), .val (.int (0 : Int32)), .val (.int v56), .unset]) rfl ?_
            refine XS.iload X107.here hx rfl (hb hby at_418) rfl ?_
            refine XS.ifNo X107.here hx rfl (hb hby at_420) rfl (XT.i0_ne_f (by first | decide | exact (show (0 : Int32) = 0 from by decide))) ?_
            refine XS.iload X107.here hx rfl (hb hby at_423) rfl ?_
            refine XS.goto X107.here hx rfl (pc0 := 425) (pc' := 441) rfl (hb hby at_425) (by decide) (by decide) ?_
            refine XS.istore X107.here hx rfl (hb hby at_441) rfl (l' := #[.val (.int p1), .val (.int p2), .val (.int p3), .val (.int p4), .val (.int p5), .val (.int v1), .val (.int (1 : Int32)), .val (.int v56), .val (.int v57), .val (.int v58), .val (.int v59), .val (.int v60), .val (.int v61), .val (.ref b62), .val (.ref b72), .val (.int v82), .val (.ref b83), .val (.ref b87), .val (.int r100), .val (.int (0 : Int32)), .val (.int v56), .val (.int v57)]) rfl ?_
            exact cont
          refine own_go (B := T107.setTop (mkF m 447 #[.val (.int p1), .val (.int p2), .val (.int p3), .val (.int p4), .val (.int p5), .val (.int v1), .val (.int (1 : Int32)), .val (.int v56), .val (.int v57), .val (.int v58), .val (.int v59), .val (.int v60), .val (.int v61), .val (.ref b62), .val (.ref b72), .val (.int v82), .val (.ref b83), .val (.ref b87), .val (.int r100), .val (.int (0 : Int32)), .val (.int v56), .val (.int v57)] [(.int (0 : Int32)), (.ref b72)])) (fun tgt cont => ?_) ?_
          · refine XS.aload X107.here hx rfl (hb hby at_443) rfl rfl ?_
            refine XS.iload X107.here hx rfl (hb hby at_445) rfl ?_
            exact cont
          -- pc 447: Graph.firstEnd
          have f111 := (((fl72_1.ext E83).ext E87).keep K96 (ninS ne_b72_b83 (ninS ne_b72_b87 nin0)))
          have f112 := ((f92.ext E87).keep K96 (ninS ne_xe72_b83 (ninS ne_xe72_b87 nin0)))
          obtain ⟨cq110, kq110, qa110, qb110, qc110⟩ := isOf hZ e107 f102
          obtain ⟨_, _, ⟨T110, L110, k110, n110⟩, -, X110, ⟨Lc110, hQ110, l110, y110, z110⟩, st110⟩ := X107.virtualBack hx (y := (⟨"com/example/cyclecut/cyclecut/graph/Graph", "firstEnd", "(I)I"⟩ : MethodName)) (z := (⟨"com/example/cyclecut/cyclecut/graph/Graph", "firstEnd", "(I)I"⟩ : MethodName)) hown (mvT hZ (hw _ (List.mem_of_getElem? (i := 110) rfl))) (mvT hZ (hw _ (List.mem_of_getElem? (i := 111) rfl))) (notFace_of_selects (args := #[]) (mvT hZ (hw _ (List.mem_of_getElem? (i := 113) rfl)))) (mvT hZ (hw _ (List.mem_of_getElem? (i := 113) rfl))) (mvT hZ (hw _ (List.mem_of_getElem? (i := 112) rfl))) (by decide) (backOf (W := 0) (rm17 l Z a0 hw [] b72 (0 : Int32) xe72 w75 T96.heap n0 zp96 f102 f111 f112 (by decide) (own_q2_1_0 ll) (own_q3_1_0 ll)) hZ (hw _ (List.mem_of_getElem? (i := 114) rfl)) (hw _ (List.mem_of_getElem? (i := 23) rfl)) (by decide) (by decide)) qa110 qc110 (g := (mkF m 447 #[.val (.int p1), .val (.int p2), .val (.int p3), .val (.int p4), .val (.int p5), .val (.int v1), .val (.int (1 : Int32)), .val (.int v56), .val (.int v57), .val (.int v58), .val (.int v59), .val (.int v60), .val (.int v61), .val (.ref b62), .val (.ref b72), .val (.int v82), .val (.ref b83), .val (.ref b87), .val (.int r100), .val (.int (0 : Int32)), .val (.int v56), .val (.int v57)] [(.int (0 : Int32)), (.ref b72)])) rfl (by rw [hml]; rfl) (Steps.refl _) (argsL := [(.int (0 : Int32))]) (rest := []) (lenOf own_pd5 rfl) rfl (by show 2 * 0 + _ ≤ _; exact Nat.le_of_eq rfl) (hb hby at_447) (fun _ _ => ⟨rfl, e107, (by decide : 12 + 0 ≤ _), (by decide : 190 + 0 ≤ _)⟩)
          dsimp only [Pt.U, Pt.locs, Pt.cells, Pt.slots] at X110 l110 y110 z110 st110 hQ110
          subst l110 y110 z110
          obtain ⟨rfl, N110q, e110⟩ := hQ110
          have N110 := Fr.app N107 N110q
          refine own_go (fun tgt cont => st110.trans cont) ?_
          show own_Go p e below s (Q0 n0) room_1.cells room_1.slots (T110.setTop (mkF m 450 #[.val (.int p1), .val (.int p2), .val (.int p3), .val (.int p4), .val (.int p5), .val (.int v1), .val (.int (1 : Int32)), .val (.int v56), .val (.int v57), .val (.int v58), .val (.int v59), .val (.int v60), .val (.int v61), .val (.ref b62), .val (.ref b72), .val (.int v82), .val (.ref b83), .val (.ref b87), .val (.int r100), .val (.int (0 : Int32)), .val (.int v56), .val (.int v57)] [(.int (own_gfir_r (0 : Int32) w75))]))
          generalize hr113 : (own_gfir_r (0 : Int32) w75) = r113
          refine own_go (B := T110.setTop (mkF m 459 #[.val (.int p1), .val (.int p2), .val (.int p3), .val (.int p4), .val (.int p5), .val (.int v1), .val (.int (1 : Int32)), .val (.int v56), .val (.int v57), .val (.int v58), .val (.int v59), .val (.int v60), .val (.int v61), .val (.ref b62), .val (.ref b72), .val (.int v82), .val (.ref b83), .val (.ref b87), .val (.int r100), .val (.int (0 : Int32)), .val (.int v56), .val (.int v57)] [(.int (0 : Int32)), (.ref b72)])) (fun tgt cont => ?_) ?_
          · refine XS.iload X110.here hx rfl (hb hby at_450) rfl ?_
            refine XS.icmpNo X110.here hx rfl (hb hby at_452) rfl (XT.ii_ne_f (by rw [← hr113, le]; exact own_f_1_0 ..)) ?_
            refine XS.aload X110.here hx rfl (hb hby at_455) rfl rfl ?_
            refine XS.iload X110.here hx rfl (hb hby at_457) rfl ?_
            exact cont
          -- pc 459: Graph.secondEnd
          obtain ⟨cq114, kq114, qa114, qb114, qc114⟩ := isOf hZ e110 f102
          obtain ⟨_, _, ⟨T114, L114, k114, n114⟩, -, X114, ⟨Lc114, hQ114, l114, y114, z114⟩, st114⟩ := X110.virtualBack hx (y := (⟨"com/example/cyclecut/cyclecut/graph/Graph", "secondEnd", "(I)I"⟩ : MethodName)) (z := (⟨"com/example/cyclecut/cyclecut/graph/Graph", "secondEnd", "(I)I"⟩ : MethodName)) hown (mvT hZ (hw _ (List.mem_of_getElem? (i := 116) rfl))) (mvT hZ (hw _ (List.mem_of_getElem? (i := 117) rfl))) (notFace_of_selects (args := #[]) (mvT hZ (hw _ (List.mem_of_getElem? (i := 119) rfl)))) (mvT hZ (hw _ (List.mem_of_getElem? (i := 119) rfl))) (mvT hZ (hw _ (List.mem_of_getElem? (i := 118) rfl))) (by decide) (backOf (W := 0) (rm18 l Z a0 hw [] b72 (0 : Int32) xe72 w75 T96.heap n0 zp96 f102 f111 f112 (by decide) (own_q2_1_0 ll) (own_q4_1_0 ll)) hZ (hw _ (List.mem_of_getElem? (i := 120) rfl)) (hw _ (List.mem_of_getElem? (i := 23) rfl)) (by decide) (by decide)) qa114 qc114 (g := (mkF m 459 #[.val (.int p1), .val (.int p2), .val (.int p3), .val (.int p4), .val (.int p5), .val (.int v1), .val (.int (1 : Int32)), .val (.int v56), .val (.int v57), .val (.int v58), .val (.int v59), .val (.int v60), .val (.int v61), .val (.ref b62), .val (.ref b72), .val (.int v82), .val (.ref b83), .val (.ref b87), .val (.int r100), .val (.int (0 : Int32)), .val (.int v56), .val (.int v57)] [(.int (0 : Int32)), (.ref b72)])) rfl (by rw [hml]; rfl) (Steps.refl _) (argsL := [(.int (0 : Int32))]) (rest := []) (lenOf own_pd5 rfl) rfl (by show 2 * 0 + _ ≤ _; exact Nat.le_of_eq rfl) (hb hby at_459) (fun _ _ => ⟨rfl, e110, (by decide : 12 + 0 + 0 ≤ _), (by decide : 190 + 0 + 0 ≤ _)⟩)
          dsimp only [Pt.U, Pt.locs, Pt.cells, Pt.slots] at X114 l114 y114 z114 st114 hQ114
          subst l114 y114 z114
          obtain ⟨rfl, N114q, e114⟩ := hQ114
          have N114 := Fr.app N110 N114q
          refine own_go (fun tgt cont => st114.trans cont) ?_
          show own_Go p e below s (Q0 n0) room_1.cells room_1.slots (T114.setTop (mkF m 462 #[.val (.int p1), .val (.int p2), .val (.int p3), .val (.int p4), .val (.int p5), .val (.int v1), .val (.int (1 : Int32)), .val (.int v56), .val (.int v57), .val (.int v58), .val (.int v59), .val (.int v60), .val (.int v61), .val (.ref b62), .val (.ref b72), .val (.int v82), .val (.ref b83), .val (.ref b87), .val (.int r100), .val (.int (0 : Int32)), .val (.int v56), .val (.int v57)] [(.int (own_gsec_r (0 : Int32) w75))]))
          generalize hr115 : (own_gsec_r (0 : Int32) w75) = r115
          refine own_go (B := T114.setTop (mkF m 470 #[.val (.int p1), .val (.int p2), .val (.int p3), .val (.int p4), .val (.int p5), .val (.int v1), .val (.int (1 : Int32)), .val (.int v56), .val (.int v57), .val (.int v58), .val (.int v59), .val (.int v60), .val (.int v61), .val (.ref b62), .val (.ref b72), .val (.int v82), .val (.ref b83), .val (.ref b87), .val (.int r100), .val (.int (0 : Int32)), .val (.int v56), .val (.int v57)] [(.int (1 : Int32))])) (fun tgt cont => ?_) ?_
          · refine XS.iload X114.here hx rfl (hb hby at_462) rfl ?_
            refine XS.icmpYes X114.here hx rfl (pc0 := 464) (pc' := 469) rfl (hb hby at_464) rfl (XT.ii_eq_t (by rw [← hr115, le]; exact own_s_1_0 ..)) (by decide) (by decide) ?_
            refine XT.iconstV X114.here hx rfl (1 : Int32) (hb hby at_469) rfl ?_
            exact cont
          refine own_end X114 (v := some (.int (1 : Int32))) (fun h => by rw [Bd.returns] at h; cases h) hlk ?_ (by decide) (by decide) (fun fs hl => retN X114 hx (t := .boolean) Bd.returns (by simp) (hb hby at_470) hl)
          exact ⟨rfl, N114⟩
      by_cases hc116 : 0 < r100
      ·
        refine own_go (B := T101.setTop (mkF m 339 #[.val (.int p1), .val (.int p2), .val (.int p3), .val (.int p4), .val (.int p5), .val (.int v1), .val (.int (1 : Int32)), .val (.int v56), .val (.int v57), .val (.int v58), .val (.int v59), .val (.int v60), .val (.int v61), .val (.ref b62), .val (.ref b72), .val (.int v82), .val (.ref b83), .val (.ref b87), .val (.int r100), .unset, .unset, .unset] [(.int ((((p4.toUInt32 >>> ((8 : Int32) &&& 31).toUInt32).toInt32) &&& (255 : Int32)) % r100))])) (fun tgt cont => ?_) ?_
        · refine XS.ifNo X101.here hx rfl (hb hby at_325) rfl (XT.i0_le_f hc116) ?_
          refine XS.iloadN X101.here hx rfl (hb hby at_328) rfl ?_
          refine XT.bipushV X101.here hx rfl (8 : Int32) (hb hby at_329) rfl ?_
          refine XS.iushr X101.here hx rfl (hb hby at_331) rfl ?_
          refine XT.sipushV X101.here hx rfl (255 : Int32) (hb hby at_332) rfl ?_
          refine XS.iand X101.here hx rfl (hb hby at_335) rfl ?_
          refine XS.iload X101.here hx rfl (hb hby at_336) rfl ?_
          refine iremM X101 hx rfl (hb hby at_338) rfl (own_cz hc116) ?_
          exact cont
        generalize hv117 : ((((p4.toUInt32 >>> ((8 : Int32) &&& 31).toUInt32).toInt32) &&& (255 : Int32)) % r100) = v117
        refine own_go (B := T101.setTop (mkF m 341 #[.val (.int p1), .val (.int p2), .val (.int p3), .val (.int p4), .val (.int p5), .val (.int v1), .val (.int (1 : Int32)), .val (.int v56), .val (.int v57), .val (.int v58), .val (.int v59), .val (.int v60), .val (.int v61), .val (.ref b62), .val (.ref b72), .val (.int v82), .val (.ref b83), .val (.ref b87), .val (.int r100), .val (.int v117), .unset, .unset] [])) (fun tgt cont => ?_) ?_
        · refine XS.istore X101.here hx rfl (hb hby at_339) rfl (l' := #[.val (.int p1), .val (.int p2), .val (.int p3), .val (.int p4), .val (.int p5), .val (.int v1), .val (.int (1 : Int32)), .val (.int v56), .val (.int v57), .val (.int v58), .val (.int v59), .val (.int v60), .val (.int v61), .val (.ref b62), .val (.ref b72), .val (.int v82), .val (.ref b83), .val (.ref b87), .val (.int r100), .val (.int v117), .unset, .unset]) rfl ?_
          exact cont
        have I1 : ¬ v117 < 0 ∧ v117 < r100 := by rw [← hv117]; exact own_iB hc116
        have T2 : v117 < own_gdg_r v82 v1 w76 := by rw [own_degE n1 GS B_v82, ← NB1.2.2.1]; exact I1.2
        refine own_go (B := T101.setTop (mkF m 347 #[.val (.int p1), .val (.int p2), .val (.int p3), .val (.int p4), .val (.int p5), .val (.int v1), .val (.int (1 : Int32)), .val (.int v56), .val (.int v57), .val (.int v58), .val (.int v59), .val (.int v60), .val (.int v61), .val (.ref b62), .val (.ref b72), .val (.int v82), .val (.ref b83), .val (.ref b87), .val (.int r100), .val (.int v117), .unset, .unset] [(.int v117), (.int v82), (.ref b72)])) (fun tgt cont => ?_) ?_
        · refine XS.aload X101.here hx rfl (hb hby at_341) rfl rfl ?_
          refine XS.iload X101.here hx rfl (hb hby at_343) rfl ?_
          refine XS.iload X101.here hx rfl (hb hby at_345) rfl ?_
          exact cont
        -- pc 347: Graph.neighbor
        have f119 := (((fl72_3.ext E83).ext E87).keep K96 (ninS ne_b72_b83 (ninS ne_b72_b87 nin0)))
        have f120 := ((f94.ext E87).keep K96 (ninS ne_xn72_b83 (ninS ne_xn72_b87 nin0)))
        obtain ⟨cq118, kq118, qa118, qb118, qc118⟩ := isOf hZ e101 f102
        obtain ⟨_, _, ⟨T118, L118, k118, n118⟩, -, X118, ⟨Lc118, hQ118, l118, y118, z118⟩, st118⟩ := X101.virtualBack hx (y := (⟨"com/example/cyclecut/cyclecut/graph/Graph", "neighbor", "(II)I"⟩ : MethodName)) (z := (⟨"com/example/cyclecut/cyclecut/graph/Graph", "neighbor", "(II)I"⟩ : MethodName)) hown (mvT hZ (hw _ (List.mem_of_getElem? (i := 95) rfl))) (mvT hZ (hw _ (List.mem_of_getElem? (i := 96) rfl))) (notFace_of_selects (args := #[]) (mvT hZ (hw _ (List.mem_of_getElem? (i := 98) rfl)))) (mvT hZ (hw _ (List.mem_of_getElem? (i := 98) rfl))) (mvT hZ (hw _ (List.mem_of_getElem? (i := 97) rfl))) (by decide) (backOf (W := 0) (rm14 l Z a0 hw [] b72 v82 v117 v1 xf72 xn72 w76 w77 T96.heap n0 zp96 f102 f103 f104 f119 f105 f120 (own_g0 n1 GS B_v82) B_v82.1 B_v82.2.1 (own_g3 n1 GS B_v82) (own_g4 n1 GS B_v82) I1.1 T2 (own_g6 n1 GS B_v82 NB1 (Nat.le_of_ble_eq_true rfl) I1.1 I1.2).1) hZ (hw _ (List.mem_of_getElem? (i := 99) rfl)) (hw _ (List.mem_of_getElem? (i := 23) rfl)) (by decide) (by decide)) qa118 qc118 (g := (mkF m 347 #[.val (.int p1), .val (.int p2), .val (.int p3), .val (.int p4), .val (.int p5), .val (.int v1), .val (.int (1 : Int32)), .val (.int v56), .val (.int v57), .val (.int v58), .val (.int v59), .val (.int v60), .val (.int v61), .val (.ref b62), .val (.ref b72), .val (.int v82), .val (.ref b83), .val (.ref b87), .val (.int r100), .val (.int v117), .unset, .unset] [(.int v117), (.int v82), (.ref b72)])) rfl (by rw [hml]; rfl) (Steps.refl _) (argsL := [(.int v82), (.int v117)]) (rest := []) (lenOf own_pd1 rfl) rfl (by show 2 * 0 + _ ≤ _; exact Nat.le_of_eq rfl) (hb hby at_347) (fun _ _ => ⟨rfl, e101, (by decide : 0 + 1 + 2 + 0 + 7 + 0 + 0 + 1 + 1 + 0 + 0 + 0 ≤ _), (by decide : 0 + 4 + 24 + 0 + 150 + 0 + 0 + 6 + 6 + 0 + 0 + 0 ≤ _)⟩)
        dsimp only [Pt.U, Pt.locs, Pt.cells, Pt.slots] at X118 l118 y118 z118 st118 hQ118
        subst l118 y118 z118
        obtain ⟨rfl, N118q, e118⟩ := hQ118
        have N118 := Fr.app N101 N118q
        refine own_go (fun tgt cont => st118.trans cont) ?_
        show own_Go p e below s (Q0 n0) room_1.cells room_1.slots (T118.setTop (mkF m 350 #[.val (.int p1), .val (.int p2), .val (.int p3), .val (.int p4), .val (.int p5), .val (.int v1), .val (.int (1 : Int32)), .val (.int v56), .val (.int v57), .val (.int v58), .val (.int v59), .val (.int v60), .val (.int v61), .val (.ref b62), .val (.ref b72), .val (.int v82), .val (.ref b83), .val (.ref b87), .val (.int r100), .val (.int v117), .unset, .unset] [(.int (own_gnei_r v82 v117 v1 w76 w77))]))
        generalize hr121 : (own_gnei_r v82 v117 v1 w76 w77) = r121
        refine own_go (B := T118.setTop (mkF m 364 #[.val (.int p1), .val (.int p2), .val (.int p3), .val (.int p4), .val (.int p5), .val (.int v1), .val (.int (1 : Int32)), .val (.int v56), .val (.int v57), .val (.int v58), .val (.int v59), .val (.int v60), .val (.int v61), .val (.ref b62), .val (.ref b72), .val (.int v82), .val (.ref b83), .val (.ref b87), .val (.int r100), .val (.int v117), .unset, .unset] [(.int v117), (.int v82), (.ref b72)])) (fun tgt cont => ?_) ?_
        · refine XS.aload X118.here hx rfl (hb hby at_350) rfl rfl ?_
          refine XS.iload X118.here hx rfl (hb hby at_352) rfl ?_
          refine own_ldIA X118 hx hZ e118 fa96_0 (j := v117) (own_iL NB1 (Nat.le_of_ble_eq_true rfl) I1.1 I1.2).1 (g := (mkF m 354 #[.val (.int p1), .val (.int p2), .val (.int p3), .val (.int p4), .val (.int p5), .val (.int v1), .val (.int (1 : Int32)), .val (.int v56), .val (.int v57), .val (.int v58), .val (.int v59), .val (.int v60), .val (.int v61), .val (.ref b62), .val (.ref b72), .val (.int v82), .val (.ref b83), .val (.ref b87), .val (.int r100), .val (.int v117), .unset, .unset] [(.int v117), (.ref b83), (.int r121)])) rfl rfl (hb hby at_354) ?_
          refine XS.icmpNo X118.here hx rfl (hb hby at_355) rfl (XT.ii_ne_f (by rw [← hr121]; exact (own_nbE n1 GS B_v82 NB1 (Nat.le_of_ble_eq_true rfl) I1.1 I1.2 (own_fh (Nat.le_of_ble_eq_true rfl))).1)) ?_
          refine XS.aload X118.here hx rfl (hb hby at_358) rfl rfl ?_
          refine XS.iload X118.here hx rfl (hb hby at_360) rfl ?_
          refine XS.iload X118.here hx rfl (hb hby at_362) rfl ?_
          exact cont
        -- pc 364: Graph.incidentEdge
        have f123 := (((fl72_4.ext E83).ext E87).keep K96 (ninS ne_b72_b83 (ninS ne_b72_b87 nin0)))
        have f124 := ((f95.ext E87).keep K96 (ninS ne_xs72_b83 (ninS ne_xs72_b87 nin0)))
        obtain ⟨cq122, kq122, qa122, qb122, qc122⟩ := isOf hZ e118 f102
        obtain ⟨_, _, ⟨T122, L122, k122, n122⟩, -, X122, ⟨Lc122, hQ122, l122, y122, z122⟩, st122⟩ := X118.virtualBack hx (y := (⟨"com/example/cyclecut/cyclecut/graph/Graph", "incidentEdge", "(II)I"⟩ : MethodName)) (z := (⟨"com/example/cyclecut/cyclecut/graph/Graph", "incidentEdge", "(II)I"⟩ : MethodName)) hown (mvT hZ (hw _ (List.mem_of_getElem? (i := 105) rfl))) (mvT hZ (hw _ (List.mem_of_getElem? (i := 106) rfl))) (notFace_of_selects (args := #[]) (mvT hZ (hw _ (List.mem_of_getElem? (i := 108) rfl)))) (mvT hZ (hw _ (List.mem_of_getElem? (i := 108) rfl))) (mvT hZ (hw _ (List.mem_of_getElem? (i := 107) rfl))) (by decide) (backOf (W := 0) (rm16 l Z a0 hw [] b72 v82 v117 v1 xf72 xs72 w76 w78 T96.heap n0 zp96 f102 f103 f104 f123 f105 f124 (own_g0 n1 GS B_v82) B_v82.1 B_v82.2.1 (own_g3 n1 GS B_v82) (own_g4 n1 GS B_v82) I1.1 T2 (own_g6 n1 GS B_v82 NB1 (Nat.le_of_ble_eq_true rfl) I1.1 I1.2).2) hZ (hw _ (List.mem_of_getElem? (i := 109) rfl)) (hw _ (List.mem_of_getElem? (i := 23) rfl)) (by decide) (by decide)) qa122 qc122 (g := (mkF m 364 #[.val (.int p1), .val (.int p2), .val (.int p3), .val (.int p4), .val (.int p5), .val (.int v1), .val (.int (1 : Int32)), .val (.int v56), .val (.int v57), .val (.int v58), .val (.int v59), .val (.int v60), .val (.int v61), .val (.ref b62), .val (.ref b72), .val (.int v82), .val (.ref b83), .val (.ref b87), .val (.int r100), .val (.int v117), .unset, .unset] [(.int v117), (.int v82), (.ref b72)])) rfl (by rw [hml]; rfl) (Steps.refl _) (argsL := [(.int v82), (.int v117)]) (rest := []) (lenOf own_pd1 rfl) rfl (by show 2 * 0 + _ ≤ _; exact Nat.le_of_eq rfl) (hb hby at_364) (fun _ _ => ⟨rfl, e118, (by decide : 0 + 1 + 2 + 0 + 7 + 0 + 0 + 1 + 1 + 0 + 0 + 0 + 0 ≤ _), (by decide : 0 + 4 + 24 + 0 + 150 + 0 + 0 + 6 + 6 + 0 + 0 + 0 + 0 ≤ _)⟩)
        dsimp only [Pt.U, Pt.locs, Pt.cells, Pt.slots] at X122 l122 y122 z122 st122 hQ122
        subst l122 y122 z122
        obtain ⟨rfl, N122q, e122⟩ := hQ122
        have N122 := Fr.app N118 N122q
        refine own_go (fun tgt cont => st122.trans cont) ?_
        show own_Go p e below s (Q0 n0) room_1.cells room_1.slots (T122.setTop (mkF m 367 #[.val (.int p1), .val (.int p2), .val (.int p3), .val (.int p4), .val (.int p5), .val (.int v1), .val (.int (1 : Int32)), .val (.int v56), .val (.int v57), .val (.int v58), .val (.int v59), .val (.int v60), .val (.int v61), .val (.ref b62), .val (.ref b72), .val (.int v82), .val (.ref b83), .val (.ref b87), .val (.int r100), .val (.int v117), .unset, .unset] [(.int (own_ginc_r v82 v117 v1 w76 w78))]))
        generalize hr125 : (own_ginc_r v82 v117 v1 w76 w78) = r125
        refine own_go (B := T122.setTop (mkF m 377 #[.val (.int p1), .val (.int p2), .val (.int p3), .val (.int p4), .val (.int p5), .val (.int v1), .val (.int (1 : Int32)), .val (.int v56), .val (.int v57), .val (.int v58), .val (.int v59), .val (.int v60), .val (.int v61), .val (.ref b62), .val (.ref b72), .val (.int v82), .val (.ref b83), .val (.ref b87), .val (.int r100), .val (.int v117), .unset, .unset] [])) (fun tgt cont => ?_) ?_
        · refine XS.aload X122.here hx rfl (hb hby at_367) rfl rfl ?_
          refine XS.iload X122.here hx rfl (hb hby at_369) rfl ?_
          refine own_ldIA X122 hx hZ e122 fa96_1 (j := v117) (own_iL NB1 (Nat.le_of_ble_eq_true rfl) I1.1 I1.2).2 (g := (mkF m 371 #[.val (.int p1), .val (.int p2), .val (.int p3), .val (.int p4), .val (.int p5), .val (.int v1), .val (.int (1 : Int32)), .val (.int v56), .val (.int v57), .val (.int v58), .val (.int v59), .val (.int v60), .val (.int v61), .val (.ref b62), .val (.ref b72), .val (.int v82), .val (.ref b83), .val (.ref b87), .val (.int r100), .val (.int v117), .unset, .unset] [(.int v117), (.ref b87), (.int r125)])) rfl rfl (hb hby at_371) ?_
          refine XS.icmpYes X122.here hx rfl (pc0 := 372) (pc' := 377) rfl (hb hby at_372) rfl (XT.ii_eq_t (by rw [← hr125]; exact (own_nbE n1 GS B_v82 NB1 (Nat.le_of_ble_eq_true rfl) I1.1 I1.2 (own_fh (Nat.le_of_ble_eq_true rfl))).2)) (by decide) (by decide) ?_
          exact cont
        exact K107 _ _ (.val (.int v117)) (own_wide X122 (by decide) (by decide)) e122 N122 (Or.inr ⟨_, rfl, rfl⟩)
      ·
        refine own_go (B := T101.setTop (mkF m 377 #[.val (.int p1), .val (.int p2), .val (.int p3), .val (.int p4), .val (.int p5), .val (.int v1), .val (.int (1 : Int32)), .val (.int v56), .val (.int v57), .val (.int v58), .val (.int v59), .val (.int v60), .val (.int v61), .val (.ref b62), .val (.ref b72), .val (.int v82), .val (.ref b83), .val (.ref b87), .val (.int r100), .unset, .unset, .unset] [])) (fun tgt cont => ?_) ?_
        · refine XS.ifYes X101.here hx rfl (pc0 := 325) (pc' := 377) rfl (hb hby at_325) rfl (XT.i0_le_t hc116) (by decide) (by decide) ?_
          exact cont
        exact K107 _ _ .unset (own_wide X101 (by decide) (by decide)) e101 N101 (Or.inl rfl)
    ·
      refine own_go (B := s₁.setTop (mkF m 39 #[.val (.int p1), .val (.int p2), .val (.int p3), .val (.int p4), .val (.int p5), .val (.int v1), .val (.int (2 : Int32)), .val (.int (0 : Int32)), .val (.int (0 : Int32)), .val (.int (0 : Int32)), .val (.int (0 : Int32)), .val (.int (0 : Int32)), .unset, .unset, .unset, .unset, .unset, .unset, .unset, .unset, .unset, .unset] [])) (fun tgt cont => ?_) ?_
      · refine XT.iconstV X0.here hx rfl (0 : Int32) (hb hby at_24) rfl ?_
        refine XS.istore X0.here hx rfl (hb hby at_25) rfl (l' := #[.val (.int p1), .val (.int p2), .val (.int p3), .val (.int p4), .val (.int p5), .val (.int v1), .val (.int (2 : Int32)), .val (.int (0 : Int32)), .unset, .unset, .unset, .unset, .unset, .unset, .unset, .unset, .unset, .unset, .unset, .unset, .unset, .unset]) rfl ?_
        refine XT.iconstV X0.here hx rfl (0 : Int32) (hb hby at_27) rfl ?_
        refine XS.istore X0.here hx rfl (hb hby at_28) rfl (l' := #[.val (.int p1), .val (.int p2), .val (.int p3), .val (.int p4), .val (.int p5), .val (.int v1), .val (.int (2 : Int32)), .val (.int (0 : Int32)), .val (.int (0 : Int32)), .unset, .unset, .unset, .unset, .unset, .unset, .unset, .unset, .unset, .unset, .unset, .unset, .unset]) rfl ?_
        refine XT.iconstV X0.here hx rfl (0 : Int32) (hb hby at_30) rfl ?_
        refine XS.istore X0.here hx rfl (hb hby at_31) rfl (l' := #[.val (.int p1), .val (.int p2), .val (.int p3), .val (.int p4), .val (.int p5), .val (.int v1), .val (.int (2 : Int32)), .val (.int (0 : Int32)), .val (.int (0 : Int32)), .val (.int (0 : Int32)), .unset, .unset, .unset, .unset, .unset, .unset, .unset, .unset, .unset, .unset, .unset, .unset]) rfl ?_
        refine XT.iconstV X0.here hx rfl (0 : Int32) (hb hby at_33) rfl ?_
        refine XS.istore X0.here hx rfl (hb hby at_34) rfl (l' := #[.val (.int p1), .val (.int p2), .val (.int p3), .val (.int p4), .val (.int p5), .val (.int v1), .val (.int (2 : Int32)), .val (.int (0 : Int32)), .val (.int (0 : Int32)), .val (.int (0 : Int32)), .val (.int (0 : Int32)), .unset, .unset, .unset, .unset, .unset, .unset, .unset, .unset, .unset, .unset, .unset]) rfl ?_
        refine XT.iconstV X0.here hx rfl (0 : Int32) (hb hby at_36) rfl ?_
        refine XS.istore X0.here hx rfl (hb hby at_37) rfl (l' := #[.val (.int p1), .val (.int p2), .val (.int p3), .val (.int p4), .val (.int p5), .val (.int v1), .val (.int (2 : Int32)), .val (.int (0 : Int32)), .val (.int (0 : Int32)), .val (.int (0 : Int32)), .val (.int (0 : Int32)), .val (.int (0 : Int32)), .unset, .unset, .unset, .unset, .unset, .unset, .unset, .unset, .unset, .unset]) rfl ?_
        exact cont
      refine own_go (B := s₁.setTop (mkF m 55 #[.val (.int p1), .val (.int p2), .val (.int p3), .val (.int p4), .val (.int p5), .val (.int v1), .val (.int (2 : Int32)), .val (.int (0 : Int32)), .val (.int (0 : Int32)), .val (.int (0 : Int32)), .val (.int (0 : Int32)), .val (.int (0 : Int32)), .val (.int (0 : Int32)), .unset, .unset, .unset, .unset, .unset, .unset, .unset, .unset, .unset] [(.int ((p2 &&& (255 : Int32)) % v1))])) (fun tgt cont => ?_) ?_
      · refine XT.iconstV X0.here hx rfl (0 : Int32) (hb hby at_39) rfl ?_
        refine XS.istore X0.here hx rfl (hb hby at_40) rfl (l' := #[.val (.int p1), .val (.int p2), .val (.int p3), .val (.int p4), .val (.int p5), .val (.int v1), .val (.int (2 : Int32)), .val (.int (0 : Int32)), .val (.int (0 : Int32)), .val (.int (0 : Int32)), .val (.int (0 : Int32)), .val (.int (0 : Int32)), .val (.int (0 : Int32)), .unset, .unset, .unset, .unset, .unset, .unset, .unset, .unset, .unset]) rfl ?_
        refine XS.iload X0.here hx rfl (hb hby at_42) rfl ?_
        refine XS.ifNo X0.here hx rfl (hb hby at_44) rfl (XT.i0_le_f (own_zt m1)) ?_
        refine XS.iloadN X0.here hx rfl (hb hby at_47) rfl ?_
        refine XT.sipushV X0.here hx rfl (255 : Int32) (hb hby at_48) rfl ?_
        refine XS.iand X0.here hx rfl (hb hby at_51) rfl ?_
        refine XS.iload X0.here hx rfl (hb hby at_52) rfl ?_
        refine iremM X0 hx rfl (hb hby at_54) rfl (own_n3c m1) ?_
        exact cont
      generalize hv126 : ((p2 &&& (255 : Int32)) % v1) = v126
      refine own_go (B := s₁.setTop (mkF m 68 #[.val (.int p1), .val (.int p2), .val (.int p3), .val (.int p4), .val (.int p5), .val (.int v1), .val (.int (2 : Int32)), .val (.int v126), .val (.int (0 : Int32)), .val (.int (0 : Int32)), .val (.int (0 : Int32)), .val (.int (0 : Int32)), .val (.int (0 : Int32)), .unset, .unset, .unset, .unset, .unset, .unset, .unset, .unset, .unset] [(.int ((((p2.toUInt32 >>> ((8 : Int32) &&& 31).toUInt32).toInt32) &&& (255 : Int32)) % v1))])) (fun tgt cont => ?_) ?_
      · refine XS.istore X0.here hx rfl (hb hby at_55) rfl (l' := #[.val (.int p1), .val (.int p2), .val (.int p3), .val (.int p4), .val (.int p5), .val (.int v1), .val (.int (2 : Int32)), .val (.int v126), .val (.int (0 : Int32)), .val (.int (0 : Int32)), .val (.int (0 : Int32)), .val (.int (0 : Int32)), .val (.int (0 : Int32)), .unset, .unset, .unset, .unset, .unset, .unset, .unset, .unset, .unset]) rfl ?_
        refine XS.iloadN X0.here hx rfl (hb hby at_57) rfl ?_
        refine XT.bipushV X0.here hx rfl (8 : Int32) (hb hby at_58) rfl ?_
        refine XS.iushr X0.here hx rfl (hb hby at_60) rfl ?_
        refine XT.sipushV X0.here hx rfl (255 : Int32) (hb hby at_61) rfl ?_
        refine XS.iand X0.here hx rfl (hb hby at_64) rfl ?_
        refine XS.iload X0.here hx rfl (hb hby at_65) rfl ?_
        refine iremM X0 hx rfl (hb hby at_67) rfl (own_n3c m1) ?_
        exact cont
      generalize hv127 : ((((p2.toUInt32 >>> ((8 : Int32) &&& 31).toUInt32).toInt32) &&& (255 : Int32)) % v1) = v127
      refine own_go (B := s₁.setTop (mkF m 81 #[.val (.int p1), .val (.int p2), .val (.int p3), .val (.int p4), .val (.int p5), .val (.int v1), .val (.int (2 : Int32)), .val (.int v126), .val (.int v127), .val (.int (0 : Int32)), .val (.int (0 : Int32)), .val (.int (0 : Int32)), .val (.int (0 : Int32)), .unset, .unset, .unset, .unset, .unset, .unset, .unset, .unset, .unset] [(.int ((((p2.toUInt32 >>> ((16 : Int32) &&& 31).toUInt32).toInt32) &&& (255 : Int32)) % v1))])) (fun tgt cont => ?_) ?_
      · refine XS.istore X0.here hx rfl (hb hby at_68) rfl (l' := #[.val (.int p1), .val (.int p2), .val (.int p3), .val (.int p4), .val (.int p5), .val (.int v1), .val (.int (2 : Int32)), .val (.int v126), .val (.int v127), .val (.int (0 : Int32)), .val (.int (0 : Int32)), .val (.int (0 : Int32)), .val (.int (0 : Int32)), .unset, .unset, .unset, .unset, .unset, .unset, .unset, .unset, .unset]) rfl ?_
        refine XS.iloadN X0.here hx rfl (hb hby at_70) rfl ?_
        refine XT.bipushV X0.here hx rfl (16 : Int32) (hb hby at_71) rfl ?_
        refine XS.iushr X0.here hx rfl (hb hby at_73) rfl ?_
        refine XT.sipushV X0.here hx rfl (255 : Int32) (hb hby at_74) rfl ?_
        refine XS.iand X0.here hx rfl (hb hby at_77) rfl ?_
        refine XS.iload X0.here hx rfl (hb hby at_78) rfl ?_
        refine iremM X0 hx rfl (hb hby at_80) rfl (own_n3c m1) ?_
        exact cont
      generalize hv128 : ((((p2.toUInt32 >>> ((16 : Int32) &&& 31).toUInt32).toInt32) &&& (255 : Int32)) % v1) = v128
      refine own_go (B := s₁.setTop (mkF m 94 #[.val (.int p1), .val (.int p2), .val (.int p3), .val (.int p4), .val (.int p5), .val (.int v1), .val (.int (2 : Int32)), .val (.int v126), .val (.int v127), .val (.int v128), .val (.int (0 : Int32)), .val (.int (0 : Int32)), .val (.int (0 : Int32)), .unset, .unset, .unset, .unset, .unset, .unset, .unset, .unset, .unset] [(.int ((((p2.toUInt32 >>> ((24 : Int32) &&& 31).toUInt32).toInt32) &&& (255 : Int32)) % v1))])) (fun tgt cont => ?_) ?_
      · refine XS.istore X0.here hx rfl (hb hby at_81) rfl (l' := #[.val (.int p1), .val (.int p2), .val (.int p3), .val (.int p4), .val (.int p5), .val (.int v1), .val (.int (2 : Int32)), .val (.int v126), .val (.int v127), .val (.int v128), .val (.int (0 : Int32)), .val (.int (0 : Int32)), .val (.int (0 : Int32)), .unset, .unset, .unset, .unset, .unset, .unset, .unset, .unset, .unset]) rfl ?_
        refine XS.iloadN X0.here hx rfl (hb hby at_83) rfl ?_
        refine XT.bipushV X0.here hx rfl (24 : Int32) (hb hby at_84) rfl ?_
        refine XS.iushr X0.here hx rfl (hb hby at_86) rfl ?_
        refine XT.sipushV X0.here hx rfl (255 : Int32) (hb hby at_87) rfl ?_
        refine XS.iand X0.here hx rfl (hb hby at_90) rfl ?_
        refine XS.iload X0.here hx rfl (hb hby at_91) rfl ?_
        refine iremM X0 hx rfl (hb hby at_93) rfl (own_n3c m1) ?_
        exact cont
      generalize hv129 : ((((p2.toUInt32 >>> ((24 : Int32) &&& 31).toUInt32).toInt32) &&& (255 : Int32)) % v1) = v129
      refine own_go (B := s₁.setTop (mkF m 104 #[.val (.int p1), .val (.int p2), .val (.int p3), .val (.int p4), .val (.int p5), .val (.int v1), .val (.int (2 : Int32)), .val (.int v126), .val (.int v127), .val (.int v128), .val (.int v129), .val (.int (0 : Int32)), .val (.int (0 : Int32)), .unset, .unset, .unset, .unset, .unset, .unset, .unset, .unset, .unset] [(.int ((p3 &&& (255 : Int32)) % v1))])) (fun tgt cont => ?_) ?_
      · refine XS.istore X0.here hx rfl (hb hby at_94) rfl (l' := #[.val (.int p1), .val (.int p2), .val (.int p3), .val (.int p4), .val (.int p5), .val (.int v1), .val (.int (2 : Int32)), .val (.int v126), .val (.int v127), .val (.int v128), .val (.int v129), .val (.int (0 : Int32)), .val (.int (0 : Int32)), .unset, .unset, .unset, .unset, .unset, .unset, .unset, .unset, .unset]) rfl ?_
        refine XS.iloadN X0.here hx rfl (hb hby at_96) rfl ?_
        refine XT.sipushV X0.here hx rfl (255 : Int32) (hb hby at_97) rfl ?_
        refine XS.iand X0.here hx rfl (hb hby at_100) rfl ?_
        refine XS.iload X0.here hx rfl (hb hby at_101) rfl ?_
        refine iremM X0 hx rfl (hb hby at_103) rfl (own_n3c m1) ?_
        exact cont
      generalize hv130 : ((p3 &&& (255 : Int32)) % v1) = v130
      refine own_go (B := s₁.setTop (mkF m 117 #[.val (.int p1), .val (.int p2), .val (.int p3), .val (.int p4), .val (.int p5), .val (.int v1), .val (.int (2 : Int32)), .val (.int v126), .val (.int v127), .val (.int v128), .val (.int v129), .val (.int v130), .val (.int (0 : Int32)), .unset, .unset, .unset, .unset, .unset, .unset, .unset, .unset, .unset] [(.int ((((p3.toUInt32 >>> ((8 : Int32) &&& 31).toUInt32).toInt32) &&& (255 : Int32)) % v1))])) (fun tgt cont => ?_) ?_
      · refine XS.istore X0.here hx rfl (hb hby at_104) rfl (l' := #[.val (.int p1), .val (.int p2), .val (.int p3), .val (.int p4), .val (.int p5), .val (.int v1), .val (.int (2 : Int32)), .val (.int v126), .val (.int v127), .val (.int v128), .val (.int v129), .val (.int v130), .val (.int (0 : Int32)), .unset, .unset, .unset, .unset, .unset, .unset, .unset, .unset, .unset]) rfl ?_
        refine XS.iloadN X0.here hx rfl (hb hby at_106) rfl ?_
        refine XT.bipushV X0.here hx rfl (8 : Int32) (hb hby at_107) rfl ?_
        refine XS.iushr X0.here hx rfl (hb hby at_109) rfl ?_
        refine XT.sipushV X0.here hx rfl (255 : Int32) (hb hby at_110) rfl ?_
        refine XS.iand X0.here hx rfl (hb hby at_113) rfl ?_
        refine XS.iload X0.here hx rfl (hb hby at_114) rfl ?_
        refine iremM X0 hx rfl (hb hby at_116) rfl (own_n3c m1) ?_
        exact cont
      generalize hv131 : ((((p3.toUInt32 >>> ((8 : Int32) &&& 31).toUInt32).toInt32) &&& (255 : Int32)) % v1) = v131
      refine own_go (B := s₁.setTop (mkF m 119 #[.val (.int p1), .val (.int p2), .val (.int p3), .val (.int p4), .val (.int p5), .val (.int v1), .val (.int (2 : Int32)), .val (.int v126), .val (.int v127), .val (.int v128), .val (.int v129), .val (.int v130), .val (.int v131), .unset, .unset, .unset, .unset, .unset, .unset, .unset, .unset, .unset] [])) (fun tgt cont => ?_) ?_
      · refine XS.istore X0.here hx rfl (hb hby at_117) rfl (l' := #[.val (.int p1), .val (.int p2), .val (.int p3), .val (.int p4), .val (.int p5), .val (.int v1), .val (.int (2 : Int32)), .val (.int v126), .val (.int v127), .val (.int v128), .val (.int v129), .val (.int v130), .val (.int v131), .unset, .unset, .unset, .unset, .unset, .unset, .unset, .unset, .unset]) rfl ?_
        exact cont
      have B_v126 : own_be v126 v1 := by rw [← hv126]; exact own_b255 m1
      have B_v127 : own_be v127 v1 := by rw [← hv127]; exact own_b255 m1
      have B_v128 : own_be v128 v1 := by rw [← hv128]; exact own_b255 m1
      have B_v129 : own_be v129 v1 := by rw [← hv129]; exact own_b255 m1
      have B_v130 : own_be v130 v1 := by rw [← hv130]; exact own_b255 m1
      have B_v131 : own_be v131 v1 := by rw [← hv131]; exact own_b255 m1
      obtain ⟨T132, h132, X132, e132, E132, A132, D132, -, st132⟩ := newO X0 hx hZ hown (hw _ (List.mem_of_getElem? (i := 0) rfl)) (hw _ (List.mem_of_getElem? (i := 1) rfl)) (hw _ (List.mem_of_getElem? (i := 2) rfl)) e0 (g := (mkF m 119 #[.val (.int p1), .val (.int p2), .val (.int p3), .val (.int p4), .val (.int p5), .val (.int v1), .val (.int (2 : Int32)), .val (.int v126), .val (.int v127), .val (.int v128), .val (.int v129), .val (.int v130), .val (.int v131), .unset, .unset, .unset, .unset, .unset, .unset, .unset, .unset, .unset] [])) rfl (hb hby at_119) (by decide) (by decide)
      obtain ⟨b132, g132⟩ : ∃ z, z = h0.size := ⟨_, rfl⟩
      rw [← g132] at A132 D132 st132
      have g_b132 : n0 ≤ b132 := Nat.le_trans Z0 (Nat.le_of_eq g132.symm)
      have sz_b132 : h0.size ≤ b132 := Nat.le_trans (Keep.refl h0 []).1 (Nat.le_of_eq g132.symm)
      have kk132 : Keep h0 h132 [] := (Keep.refl h0 []).ext E132
      have zp132 : n0 ≤ h132.size := Nat.le_trans Z0 kk132.1
      have F_ends_b132 : Fld Z h132 b132 "com/example/cyclecut/cyclecut/graph/Graph$Builder" "ends" "[I" .null := D132 (Or.inl (hw _ (List.mem_of_getElem? (i := 11) rfl))) (ty := (.array .int)) (by decide)
      have F_vertexCount_b132 : Fld Z h132 b132 "com/example/cyclecut/cyclecut/graph/Graph$Builder" "vertexCount" "I" (.int (0 : Int32)) := D132 (Or.inr (hw _ (List.mem_of_getElem? (i := 13) rfl))) (ty := .int) (by decide)
      have F_degree_b132 : Fld Z h132 b132 "com/example/cyclecut/cyclecut/graph/Graph$Builder" "degree" "[I" .null := D132 (Or.inr (hw _ (List.mem_of_getElem? (i := 15) rfl))) (ty := (.array .int)) (by decide)
      have F_edgeCount_b132 : Fld Z h132 b132 "com/example/cyclecut/cyclecut/graph/Graph$Builder" "edgeCount" "I" (.int (0 : Int32)) := D132 (Or.inl (hw _ (List.mem_of_getElem? (i := 25) rfl))) (ty := .int) (by decide)
      refine own_go (fun tgt cont => st132 tgt cont) ?_
      show own_Go p e below s (Q0 n0) room_1.cells room_1.slots (T132.setTop (mkF m 122 #[.val (.int p1), .val (.int p2), .val (.int p3), .val (.int p4), .val (.int p5), .val (.int v1), .val (.int (2 : Int32)), .val (.int v126), .val (.int v127), .val (.int v128), .val (.int v129), .val (.int v130), .val (.int v131), .unset, .unset, .unset, .unset, .unset, .unset, .unset, .unset, .unset] [(.ref b132)]))
      refine own_go (B := T132.setTop (mkF m 125 #[.val (.int p1), .val (.int p2), .val (.int p3), .val (.int p4), .val (.int p5), .val (.int v1), .val (.int (2 : Int32)), .val (.int v126), .val (.int v127), .val (.int v128), .val (.int v129), .val (.int v130), .val (.int v131), .unset, .unset, .unset, .unset, .unset, .unset, .unset, .unset, .unset] [(.int v1), (.ref b132), (.ref b132)])) (fun tgt cont => ?_) ?_
      · refine XS.dup X132.here hx rfl (hb hby at_122) rfl rfl ?_
        refine XS.iload X132.here hx rfl (hb hby at_123) rfl ?_
        exact cont
      -- pc 125: Graph$Builder.<init>
      obtain ⟨_, _, ⟨T133, L133, k133, n133⟩, -, X133, ⟨Lc133, hQ133, l133, y133, z133⟩, st133⟩ := X132.specialBack hx (y := (⟨"com/example/cyclecut/cyclecut/graph/Graph$Builder", "<init>", "(I)V"⟩ : MethodName)) rfl hown (mvT hZ (hw _ (List.mem_of_getElem? (i := 3) rfl))) (mvT hZ (hw _ (List.mem_of_getElem? (i := 4) rfl))) (mvT hZ (hw _ (List.mem_of_getElem? (i := 5) rfl))) (by decide) (backOf (W := 1) (rm1 l Z a0 hw [] b132 v1 h132 n0 zp132 A132 F_vertexCount_b132 F_degree_b132 F_ends_b132 F_edgeCount_b132 g_b132 n2 n3) hZ (hw _ (List.mem_of_getElem? (i := 5) rfl)) (hw _ (List.mem_of_getElem? (i := 2) rfl)) (by decide) (by decide)) (g := (mkF m 125 #[.val (.int p1), .val (.int p2), .val (.int p3), .val (.int p4), .val (.int p5), .val (.int v1), .val (.int (2 : Int32)), .val (.int v126), .val (.int v127), .val (.int v128), .val (.int v129), .val (.int v130), .val (.int v131), .unset, .unset, .unset, .unset, .unset, .unset, .unset, .unset, .unset] [(.int v1), (.ref b132), (.ref b132)])) rfl (by rw [hml]; rfl) (Steps.refl _) (a := b132) (argsL := [(.int v1)]) (rest := [(.ref b132)]) (lenOf own_pd6 rfl) rfl (by show 2 * 0 + _ ≤ _; exact Nat.le_of_eq rfl) (hb hby at_125) (fun _ _ => ⟨rfl, e132, (by decide : 0 + 1 + 2 ≤ _), (by decide : 0 + 4 + 24 ≤ _)⟩)
      dsimp only [Pt.U, Pt.locs, Pt.cells, Pt.slots] at X133 l133 y133 z133 st133 hQ133
      subst l133 y133 z133
      obtain ⟨b133_0, b133_1, rfl, N133q, K133, ex133_0, fa133_0, fa133_1, fa133_2, fa133_3, gb133_0, ab133_0, eb133_0, gb133_1, ab133_1, eb133_1, ne_b133_0_b133_1⟩ := hQ133
      have N133 := Fr.app N0 N133q
      have g_b133_0 : n0 ≤ b133_0 := Nat.le_trans zp132 gb133_0
      have sz_b133_0 : h0.size ≤ b133_0 := Nat.le_trans kk132.1 gb133_0
      have ne_b132_b133_0 : b132 ≠ b133_0 := Nat.ne_of_lt (Nat.lt_of_lt_of_le A132.lt gb133_0)
      have g_b133_1 : n0 ≤ b133_1 := Nat.le_trans zp132 gb133_1
      have sz_b133_1 : h0.size ≤ b133_1 := Nat.le_trans kk132.1 gb133_1
      have ne_b132_b133_1 : b132 ≠ b133_1 := Nat.ne_of_lt (Nat.lt_of_lt_of_le A132.lt gb133_1)
      have kk133 : Keep h0 T133.heap [] := kk132.trans K133 (allS (Or.inr sz_b132) all0)
      have zp133 : n0 ≤ T133.heap.size := Nat.le_trans Z0 kk133.1
      generalize hw134 : (own_bi_degree v1) = w134 at ab133_0
      generalize hw135 : own_bi_ends = w135 at ab133_1
      refine own_go (fun tgt cont => st133.trans cont) ?_
      show own_Go p e below s (Q0 n0) room_1.cells room_1.slots (T133.setTop (mkF m 128 #[.val (.int p1), .val (.int p2), .val (.int p3), .val (.int p4), .val (.int p5), .val (.int v1), .val (.int (2 : Int32)), .val (.int v126), .val (.int v127), .val (.int v128), .val (.int v129), .val (.int v130), .val (.int v131), .unset, .unset, .unset, .unset, .unset, .unset, .unset, .unset, .unset] [(.ref b132)]))
      have DG0 : own_DG [] w134 v1.toNatClampNeg := by rw [← hw134]; exact own_DG0 _
      have al136 : own_IA Z T133.heap b133_1 [(0 : Int32), (0 : Int32), (0 : Int32), (0 : Int32), (0 : Int32), (0 : Int32), (0 : Int32), (0 : Int32), (0 : Int32), (0 : Int32), (0 : Int32), (0 : Int32), (0 : Int32), (0 : Int32), (0 : Int32), (0 : Int32)] := ab133_1.cong (hw135.symm.trans rfl)
      refine own_go (B := T133.setTop (mkF m 141 #[.val (.int p1), .val (.int p2), .val (.int p3), .val (.int p4), .val (.int p5), .val (.int v1), .val (.int (2 : Int32)), .val (.int v126), .val (.int v127), .val (.int v128), .val (.int v129), .val (.int v130), .val (.int v131), .val (.ref b132), .unset, .unset, .unset, .unset, .unset, .unset, .unset, .unset] [(.int v127), (.int v126), (.ref b132)])) (fun tgt cont => ?_) ?_
      · refine XS.astore X133.here hx rfl (hb hby at_128) rfl rfl (l' := #[.val (.int p1), .val (.int p2), .val (.int p3), .val (.int p4), .val (.int p5), .val (.int v1), .val (.int (2 : Int32)), .val (.int v126), .val (.int v127), .val (.int v128), .val (.int v129), .val (.int v130), .val (.int v131), .val (.ref b132), .unset, .unset, .unset, .unset, .unset, .unset, .unset, .unset]) rfl ?_
        refine XS.iload X133.here hx rfl (hb hby at_130) rfl ?_
        refine XS.ifNo X133.here hx rfl (hb hby at_132) rfl (XT.i0_le_f (by first | decide | exact (show 0 < (2 : Int32) from by decide))) ?_
        refine XS.aload X133.here hx rfl (hb hby at_135) rfl rfl ?_
        refine XS.iload X133.here hx rfl (hb hby at_137) rfl ?_
        refine XS.iload X133.here hx rfl (hb hby at_139) rfl ?_
        exact cont
      -- pc 141: Graph$Builder.addEdge
      obtain ⟨cq137, kq137, qa137, qb137, qc137⟩ := isOf hZ rfl ex133_0
      obtain ⟨_, _, ⟨T137, L137, k137, n137⟩, -, X137, ⟨Lc137, hQ137, l137, y137, z137⟩, st137⟩ := X133.virtualBack hx (y := (⟨"com/example/cyclecut/cyclecut/graph/Graph$Builder", "addEdge", "(II)I"⟩ : MethodName)) (z := (⟨"com/example/cyclecut/cyclecut/graph/Graph$Builder", "addEdge", "(II)I"⟩ : MethodName)) hown (mvT hZ (hw _ (List.mem_of_getElem? (i := 85) rfl))) (mvT hZ (hw _ (List.mem_of_getElem? (i := 86) rfl))) (notFace_of_selects (args := #[]) (mvT hZ (hw _ (List.mem_of_getElem? (i := 88) rfl)))) (mvT hZ (hw _ (List.mem_of_getElem? (i := 88) rfl))) (mvT hZ (hw _ (List.mem_of_getElem? (i := 87) rfl))) (by decide) (backOf (W := 0) (rm12_N l Z a0 hw [] b132 v126 v127 v1 b133_0 b133_1 (0 : Int32) w134 ([(0 : Int32), (0 : Int32), (0 : Int32), (0 : Int32), (0 : Int32), (0 : Int32), (0 : Int32), (0 : Int32), (0 : Int32), (0 : Int32), (0 : Int32), (0 : Int32), (0 : Int32), (0 : Int32), (0 : Int32), (0 : Int32)]) T133.heap n0 zp133 ex133_0 fa133_0 fa133_1 fa133_2 fa133_3 g_b132 ab133_0 g_b133_0 al136 g_b133_1 ne_b133_0_b133_1 B_v126.1 B_v126.2.1 B_v127.1 B_v127.2.1 (own_hg0 rfl) (own_c1_0 rfl) (own_c2_0 rfl) (own_dB DG0 B_v126) (own_dB DG0 B_v127)) hZ (hw _ (List.mem_of_getElem? (i := 89) rfl)) (hw _ (List.mem_of_getElem? (i := 2) rfl)) (by decide) (by decide)) qa137 qc137 (g := (mkF m 141 #[.val (.int p1), .val (.int p2), .val (.int p3), .val (.int p4), .val (.int p5), .val (.int v1), .val (.int (2 : Int32)), .val (.int v126), .val (.int v127), .val (.int v128), .val (.int v129), .val (.int v130), .val (.int v131), .val (.ref b132), .unset, .unset, .unset, .unset, .unset, .unset, .unset, .unset] [(.int v127), (.int v126), (.ref b132)])) rfl (by rw [hml]; rfl) (Steps.refl _) (argsL := [(.int v126), (.int v127)]) (rest := []) (lenOf own_pd1 rfl) rfl (by show 2 * 0 + _ ≤ _; exact Nat.le_of_eq rfl) (hb hby at_141) (fun _ _ => ⟨rfl, rfl, (by decide : 0 + 1 + 2 + 0 ≤ _), (by decide : 0 + 4 + 24 + 0 ≤ _)⟩)
      dsimp only [Pt.U, Pt.locs, Pt.cells, Pt.slots] at X137 l137 y137 z137 st137 hQ137
      subst l137 y137 z137
      obtain ⟨rfl, N137q, K137, ex137_0, fa137_0, fa137_1, fa137_2, fa137_3, fa137_4, fa137_5⟩ := hQ137
      have N137 := Fr.app N133 N137q
      have kk137 : Keep h0 T137.heap [] := kk133.trans K137 (allS (Or.inr sz_b132) (allS (Or.inr sz_b133_0) (allS (Or.inr sz_b133_1) all0)))
      have zp137 : n0 ≤ T137.heap.size := Nat.le_trans Z0 kk137.1
      generalize hw138 : (own_ae_edgeCount (0 : Int32)) = w138 at fa137_3
      generalize hw139 : (own_ae_ds v126 v127 w134) = w139 at fa137_4
      generalize hw140 : (own_ae_es v126 v127 (0 : Int32) [(0 : Int32), (0 : Int32), (0 : Int32), (0 : Int32), (0 : Int32), (0 : Int32), (0 : Int32), (0 : Int32), (0 : Int32), (0 : Int32), (0 : Int32), (0 : Int32), (0 : Int32), (0 : Int32), (0 : Int32), (0 : Int32)]) = w140 at fa137_5
      refine own_go (fun tgt cont => st137.trans cont) ?_
      show own_Go p e below s (Q0 n0) room_1.cells room_1.slots (T137.setTop (mkF m 144 #[.val (.int p1), .val (.int p2), .val (.int p3), .val (.int p4), .val (.int p5), .val (.int v1), .val (.int (2 : Int32)), .val (.int v126), .val (.int v127), .val (.int v128), .val (.int v129), .val (.int v130), .val (.int v131), .val (.ref b132), .unset, .unset, .unset, .unset, .unset, .unset, .unset, .unset] [(.int (0 : Int32))]))
      obtain rfl : w138 = (1 : Int32) := hw138.symm.trans own_ec0
      have DG1 : own_DG [v126, v127] w139 v1.toNatClampNeg := own_DGa DG0 B_v126 B_v127 hw139
      have al141 : own_IA Z T137.heap b133_1 [v126, v127, (0 : Int32), (0 : Int32), (0 : Int32), (0 : Int32), (0 : Int32), (0 : Int32), (0 : Int32), (0 : Int32), (0 : Int32), (0 : Int32), (0 : Int32), (0 : Int32), (0 : Int32), (0 : Int32)] := fa137_5.cong (hw140.symm.trans (own_es0 ..))
      refine own_go (B := T137.setTop (mkF m 157 #[.val (.int p1), .val (.int p2), .val (.int p3), .val (.int p4), .val (.int p5), .val (.int v1), .val (.int (2 : Int32)), .val (.int v126), .val (.int v127), .val (.int v128), .val (.int v129), .val (.int v130), .val (.int v131), .val (.ref b132), .unset, .unset, .unset, .unset, .unset, .unset, .unset, .unset] [(.int v129), (.int v128), (.ref b132)])) (fun tgt cont => ?_) ?_
      · refine XS.pop X137.here hx rfl (hb hby at_144) rfl rfl ?_
        refine XS.iload X137.here hx rfl (hb hby at_145) rfl ?_
        refine XT.iconstV X137.here hx rfl (1 : Int32) (hb hby at_147) rfl ?_
        refine XS.icmpNo X137.here hx rfl (hb hby at_148) rfl (XT.ii_le_f (by first | decide | exact (show (1 : Int32) < (2 : Int32) from by decide))) ?_
        refine XS.aload X137.here hx rfl (hb hby at_151) rfl rfl ?_
        refine XS.iload X137.here hx rfl (hb hby at_153) rfl ?_
        refine XS.iload X137.here hx rfl (hb hby at_155) rfl ?_
        exact cont
      -- pc 157: Graph$Builder.addEdge
      obtain ⟨cq142, kq142, qa142, qb142, qc142⟩ := isOf hZ rfl ex137_0
      obtain ⟨_, _, ⟨T142, L142, k142, n142⟩, -, X142, ⟨Lc142, hQ142, l142, y142, z142⟩, st142⟩ := X137.virtualBack hx (y := (⟨"com/example/cyclecut/cyclecut/graph/Graph$Builder", "addEdge", "(II)I"⟩ : MethodName)) (z := (⟨"com/example/cyclecut/cyclecut/graph/Graph$Builder", "addEdge", "(II)I"⟩ : MethodName)) hown (mvT hZ (hw _ (List.mem_of_getElem? (i := 85) rfl))) (mvT hZ (hw _ (List.mem_of_getElem? (i := 86) rfl))) (notFace_of_selects (args := #[]) (mvT hZ (hw _ (List.mem_of_getElem? (i := 88) rfl)))) (mvT hZ (hw _ (List.mem_of_getElem? (i := 88) rfl))) (mvT hZ (hw _ (List.mem_of_getElem? (i := 87) rfl))) (by decide) (backOf (W := 0) (rm12_N l Z a0 hw [] b132 v128 v129 v1 b133_0 b133_1 (1 : Int32) w139 ([v126, v127, (0 : Int32), (0 : Int32), (0 : Int32), (0 : Int32), (0 : Int32), (0 : Int32), (0 : Int32), (0 : Int32), (0 : Int32), (0 : Int32), (0 : Int32), (0 : Int32), (0 : Int32), (0 : Int32)]) T137.heap n0 zp137 ex137_0 fa137_0 fa137_1 fa137_2 fa137_3 g_b132 fa137_4 g_b133_0 al141 g_b133_1 ne_b133_0_b133_1 B_v128.1 B_v128.2.1 B_v129.1 B_v129.2.1 (own_hg1 rfl) (own_c1_1 rfl) (own_c2_1 rfl) (own_dB DG1 B_v128) (own_dB DG1 B_v129)) hZ (hw _ (List.mem_of_getElem? (i := 89) rfl)) (hw _ (List.mem_of_getElem? (i := 2) rfl)) (by decide) (by decide)) qa142 qc142 (g := (mkF m 157 #[.val (.int p1), .val (.int p2), .val (.int p3), .val (.int p4), .val (.int p5), .val (.int v1), .val (.int (2 : Int32)), .val (.int v126), .val (.int v127), .val (.int v128), .val (.int v129), .val (.int v130), .val (.int v131), .val (.ref b132), .unset, .unset, .unset, .unset, .unset, .unset, .unset, .unset] [(.int v129), (.int v128), (.ref b132)])) rfl (by rw [hml]; rfl) (Steps.refl _) (argsL := [(.int v128), (.int v129)]) (rest := []) (lenOf own_pd1 rfl) rfl (by show 2 * 0 + _ ≤ _; exact Nat.le_of_eq rfl) (hb hby at_157) (fun _ _ => ⟨rfl, rfl, (by decide : 0 + 1 + 2 + 0 + 0 ≤ _), (by decide : 0 + 4 + 24 + 0 + 0 ≤ _)⟩)
      dsimp only [Pt.U, Pt.locs, Pt.cells, Pt.slots] at X142 l142 y142 z142 st142 hQ142
      subst l142 y142 z142
      obtain ⟨rfl, N142q, K142, ex142_0, fa142_0, fa142_1, fa142_2, fa142_3, fa142_4, fa142_5⟩ := hQ142
      have N142 := Fr.app N137 N142q
      have kk142 : Keep h0 T142.heap [] := kk137.trans K142 (allS (Or.inr sz_b132) (allS (Or.inr sz_b133_0) (allS (Or.inr sz_b133_1) all0)))
      have zp142 : n0 ≤ T142.heap.size := Nat.le_trans Z0 kk142.1
      generalize hw143 : (own_ae_edgeCount (1 : Int32)) = w143 at fa142_3
      generalize hw144 : (own_ae_ds v128 v129 w139) = w144 at fa142_4
      generalize hw145 : (own_ae_es v128 v129 (1 : Int32) [v126, v127, (0 : Int32), (0 : Int32), (0 : Int32), (0 : Int32), (0 : Int32), (0 : Int32), (0 : Int32), (0 : Int32), (0 : Int32), (0 : Int32), (0 : Int32), (0 : Int32), (0 : Int32), (0 : Int32)]) = w145 at fa142_5
      refine own_go (fun tgt cont => st142.trans cont) ?_
      show own_Go p e below s (Q0 n0) room_1.cells room_1.slots (T142.setTop (mkF m 160 #[.val (.int p1), .val (.int p2), .val (.int p3), .val (.int p4), .val (.int p5), .val (.int v1), .val (.int (2 : Int32)), .val (.int v126), .val (.int v127), .val (.int v128), .val (.int v129), .val (.int v130), .val (.int v131), .val (.ref b132), .unset, .unset, .unset, .unset, .unset, .unset, .unset, .unset] [(.int (1 : Int32))]))
      obtain rfl : w143 = (2 : Int32) := hw143.symm.trans own_ec1
      have DG2 : own_DG [v126, v127, v128, v129] w144 v1.toNatClampNeg := own_DGa DG1 B_v128 B_v129 hw144
      have al146 : own_IA Z T142.heap b133_1 [v126, v127, v128, v129, (0 : Int32), (0 : Int32), (0 : Int32), (0 : Int32), (0 : Int32), (0 : Int32), (0 : Int32), (0 : Int32), (0 : Int32), (0 : Int32), (0 : Int32), (0 : Int32)] := fa142_5.cong (hw145.symm.trans (own_es1 ..))
      refine own_go (B := T142.setTop (mkF m 179 #[.val (.int p1), .val (.int p2), .val (.int p3), .val (.int p4), .val (.int p5), .val (.int v1), .val (.int (2 : Int32)), .val (.int v126), .val (.int v127), .val (.int v128), .val (.int v129), .val (.int v130), .val (.int v131), .val (.ref b132), .unset, .unset, .unset, .unset, .unset, .unset, .unset, .unset] [(.ref b132)])) (fun tgt cont => ?_) ?_
      · refine XS.pop X142.here hx rfl (hb hby at_160) rfl rfl ?_
        refine XS.iload X142.here hx rfl (hb hby at_161) rfl ?_
        refine XT.iconstV X142.here hx rfl (2 : Int32) (hb hby at_163) rfl ?_
        refine XS.icmpYes X142.here hx rfl (pc0 := 164) (pc' := 177) rfl (hb hby at_164) rfl (XT.ii_le_t (by first | decide | exact (show ¬ ((2 : Int32) < (2 : Int32)) from by decide))) (by decide) (by decide) ?_
        refine XS.aload X142.here hx rfl (hb hby at_177) rfl rfl ?_
        exact cont
      -- pc 179: Graph$Builder.build
      have f148 := ((eb133_0.keep K137).keep K142)
      obtain ⟨cq147, kq147, qa147, qb147, qc147⟩ := isOf hZ rfl ex142_0
      obtain ⟨_, _, ⟨T147, L147, k147, n147⟩, -, X147, ⟨Lc147, hQ147, l147, y147, z147⟩, st147⟩ := X142.virtualBack hx (y := (⟨"com/example/cyclecut/cyclecut/graph/Graph$Builder", "build", "()Lcom/example/cyclecut/cyclecut/graph/Graph;"⟩ : MethodName)) (z := (⟨"com/example/cyclecut/cyclecut/graph/Graph$Builder", "build", "()Lcom/example/cyclecut/cyclecut/graph/Graph;"⟩ : MethodName)) hown (mvT hZ (hw _ (List.mem_of_getElem? (i := 16) rfl))) (mvT hZ (hw _ (List.mem_of_getElem? (i := 17) rfl))) (notFace_of_selects (args := #[]) (mvT hZ (hw _ (List.mem_of_getElem? (i := 19) rfl)))) (mvT hZ (hw _ (List.mem_of_getElem? (i := 19) rfl))) (mvT hZ (hw _ (List.mem_of_getElem? (i := 18) rfl))) (by decide) (backOf (W := 0) (rm3 l Z a0 hw [] b132 v1 b133_0 b133_1 (2 : Int32) w144 [v126, v127, v128, v129, (0 : Int32), (0 : Int32), (0 : Int32), (0 : Int32), (0 : Int32), (0 : Int32), (0 : Int32), (0 : Int32), (0 : Int32), (0 : Int32), (0 : Int32), (0 : Int32)] T142.heap n0 zp142 ex142_0 fa142_0 fa142_1 fa142_2 fa142_3 fa142_4 f148 al146 (own_hd_2 rfl) (by decide) (by decide) n2 n3 (own_hle_2 ..) DG2.1 (own_gb_2 n1 DG2)) hZ (hw _ (List.mem_of_getElem? (i := 20) rfl)) (hw _ (List.mem_of_getElem? (i := 2) rfl)) (by decide) (by decide)) qa147 qc147 (g := (mkF m 179 #[.val (.int p1), .val (.int p2), .val (.int p3), .val (.int p4), .val (.int p5), .val (.int v1), .val (.int (2 : Int32)), .val (.int v126), .val (.int v127), .val (.int v128), .val (.int v129), .val (.int v130), .val (.int v131), .val (.ref b132), .unset, .unset, .unset, .unset, .unset, .unset, .unset, .unset] [(.ref b132)])) rfl (by rw [hml]; rfl) (Steps.refl _) (argsL := []) (rest := []) (lenOf own_pd7 rfl) rfl (by show 2 * 0 + _ ≤ _; exact Nat.le_of_eq rfl) (hb hby at_179) (fun _ _ => ⟨rfl, rfl, (by decide : 0 + 1 + 2 + 0 + 0 + 7 ≤ _), (by decide : 0 + 4 + 24 + 0 + 0 + 150 ≤ _)⟩)
      dsimp only [Pt.U, Pt.locs, Pt.cells, Pt.slots] at X147 l147 y147 z147 st147 hQ147
      subst l147 y147 z147
      have f149 := ((eb133_1.keep K137).keep K142)
      obtain ⟨b147, xe147, xf147, xn147, xs147, rfl, N147q, K147, gb147, eg147, fl147_0, fl147_1, fl147_2, fl147_3, fl147_4, al147_0, al147_1, al147_2, al147_3⟩ := hQ147
      have N147 := Fr.app N142 N147q
      have kk147 : Keep h0 T147.heap [] := kk142.trans K147 all0
      have zp147 : n0 ≤ T147.heap.size := Nat.le_trans Z0 kk147.1
      generalize hw150 : (own_cof_l ((2 : Int32) * (2 : Int32)) [v126, v127, v128, v129, (0 : Int32), (0 : Int32), (0 : Int32), (0 : Int32), (0 : Int32), (0 : Int32), (0 : Int32), (0 : Int32), (0 : Int32), (0 : Int32), (0 : Int32), (0 : Int32)]) = w150 at al147_0
      generalize hw151 : (own_fsL w144 v1.toNatClampNeg (List.replicate (v1.toNatClampNeg + 1) 0)) = w151 at al147_1
      generalize hw152 : (own_l1 (own_cof_l ((2 : Int32) * (2 : Int32)) [v126, v127, v128, v129, (0 : Int32), (0 : Int32), (0 : Int32), (0 : Int32), (0 : Int32), (0 : Int32), (0 : Int32), (0 : Int32), (0 : Int32), (0 : Int32), (0 : Int32), (0 : Int32)]) (own_cof_l v1 (own_fsL w144 v1.toNatClampNeg (List.replicate (v1.toNatClampNeg + 1) 0))) (List.replicate (own_cof_l ((2 : Int32) * (2 : Int32)) [v126, v127, v128, v129, (0 : Int32), (0 : Int32), (0 : Int32), (0 : Int32), (0 : Int32), (0 : Int32), (0 : Int32), (0 : Int32), (0 : Int32), (0 : Int32), (0 : Int32), (0 : Int32)]).length 0) (own_cof_l ((2 : Int32) * (2 : Int32)) [v126, v127, v128, v129, (0 : Int32), (0 : Int32), (0 : Int32), (0 : Int32), (0 : Int32), (0 : Int32), (0 : Int32), (0 : Int32), (0 : Int32), (0 : Int32), (0 : Int32), (0 : Int32)]).length) = w152 at al147_2
      generalize hw153 : (own_l2 (own_cof_l ((2 : Int32) * (2 : Int32)) [v126, v127, v128, v129, (0 : Int32), (0 : Int32), (0 : Int32), (0 : Int32), (0 : Int32), (0 : Int32), (0 : Int32), (0 : Int32), (0 : Int32), (0 : Int32), (0 : Int32), (0 : Int32)]) (own_cof_l v1 (own_fsL w144 v1.toNatClampNeg (List.replicate (v1.toNatClampNeg + 1) 0))) (List.replicate (own_cof_l ((2 : Int32) * (2 : Int32)) [v126, v127, v128, v129, (0 : Int32), (0 : Int32), (0 : Int32), (0 : Int32), (0 : Int32), (0 : Int32), (0 : Int32), (0 : Int32), (0 : Int32), (0 : Int32), (0 : Int32), (0 : Int32)]).length 0) (own_cof_l ((2 : Int32) * (2 : Int32)) [v126, v127, v128, v129, (0 : Int32), (0 : Int32), (0 : Int32), (0 : Int32), (0 : Int32), (0 : Int32), (0 : Int32), (0 : Int32), (0 : Int32), (0 : Int32), (0 : Int32), (0 : Int32)]).length) = w153 at al147_3
      refine own_go (fun tgt cont => st147.trans cont) ?_
      show own_Go p e below s (Q0 n0) room_1.cells room_1.slots (T147.setTop (mkF m 182 #[.val (.int p1), .val (.int p2), .val (.int p3), .val (.int p4), .val (.int p5), .val (.int v1), .val (.int (2 : Int32)), .val (.int v126), .val (.int v127), .val (.int v128), .val (.int v129), .val (.int v130), .val (.int v131), .val (.ref b132), .unset, .unset, .unset, .unset, .unset, .unset, .unset, .unset] [(.ref b147)]))
      refine own_go (B := T147.setTop (mkF m 184 #[.val (.int p1), .val (.int p2), .val (.int p3), .val (.int p4), .val (.int p5), .val (.int v1), .val (.int (2 : Int32)), .val (.int v126), .val (.int v127), .val (.int v128), .val (.int v129), .val (.int v130), .val (.int v131), .val (.ref b132), .val (.ref b147), .unset, .unset, .unset, .unset, .unset, .unset, .unset] [])) (fun tgt cont => ?_) ?_
      · refine XS.astore X147.here hx rfl (hb hby at_182) rfl rfl (l' := #[.val (.int p1), .val (.int p2), .val (.int p3), .val (.int p4), .val (.int p5), .val (.int v1), .val (.int (2 : Int32)), .val (.int v126), .val (.int v127), .val (.int v128), .val (.int v129), .val (.int v130), .val (.int v131), .val (.ref b132), .val (.ref b147), .unset, .unset, .unset, .unset, .unset, .unset, .unset]) rfl ?_
        exact cont
      have le : w150 = [v126, v127, v128, v129] := hw150.symm.trans (own_LE_2 ..)
      have ll : w150.length = 4 := by rw [le]; rfl
      have GS : own_GS [v126, v127, v128, v129] v1.toNatClampNeg w151 w152 w153 := own_GSmk n1 DG2 (Nat.le_of_ble_eq_true rfl) (own_LE_2 ..) hw151 hw152 hw153
      refine own_go (B := T147.setTop (mkF m 186 #[.val (.int p1), .val (.int p2), .val (.int p3), .val (.int p4), .val (.int p5), .val (.int v1), .val (.int (2 : Int32)), .val (.int v126), .val (.int v127), .val (.int v128), .val (.int v129), .val (.int v130), .val (.int v131), .val (.ref b132), .val (.ref b147), .unset, .unset, .unset, .unset, .unset, .unset, .unset] [(.ref b147)])) (fun tgt cont => ?_) ?_
      · refine XS.aload X147.here hx rfl (hb hby at_184) rfl rfl ?_
        exact cont
      -- pc 186: Graph.vertexCount
      obtain ⟨cq154, kq154, qa154, qb154, qc154⟩ := isOf hZ rfl eg147
      obtain ⟨_, _, ⟨T154, L154, k154, n154⟩, -, X154, ⟨Lc154, hQ154, l154, y154, z154⟩, st154⟩ := X147.virtualBack hx (y := (⟨"com/example/cyclecut/cyclecut/graph/Graph", "vertexCount", "()I"⟩ : MethodName)) (z := (⟨"com/example/cyclecut/cyclecut/graph/Graph", "vertexCount", "()I"⟩ : MethodName)) hown (mvT hZ (hw _ (List.mem_of_getElem? (i := 62) rfl))) (mvT hZ (hw _ (List.mem_of_getElem? (i := 63) rfl))) (notFace_of_selects (args := #[]) (mvT hZ (hw _ (List.mem_of_getElem? (i := 65) rfl)))) (mvT hZ (hw _ (List.mem_of_getElem? (i := 65) rfl))) (mvT hZ (hw _ (List.mem_of_getElem? (i := 64) rfl))) (by decide) (backOf (W := 0) (rm7 l Z a0 hw [] b147 v1 T147.heap n0 zp147 eg147 fl147_0) hZ (hw _ (List.mem_of_getElem? (i := 66) rfl)) (hw _ (List.mem_of_getElem? (i := 23) rfl)) (by decide) (by decide)) qa154 qc154 (g := (mkF m 186 #[.val (.int p1), .val (.int p2), .val (.int p3), .val (.int p4), .val (.int p5), .val (.int v1), .val (.int (2 : Int32)), .val (.int v126), .val (.int v127), .val (.int v128), .val (.int v129), .val (.int v130), .val (.int v131), .val (.ref b132), .val (.ref b147), .unset, .unset, .unset, .unset, .unset, .unset, .unset] [(.ref b147)])) rfl (by rw [hml]; rfl) (Steps.refl _) (argsL := []) (rest := []) (lenOf own_pd4 rfl) rfl (by show 2 * 0 + _ ≤ _; exact Nat.le_of_eq rfl) (hb hby at_186) (fun _ _ => ⟨rfl, rfl, (by decide : 0 + 1 + 2 + 0 + 0 + 7 + 0 ≤ _), (by decide : 0 + 4 + 24 + 0 + 0 + 150 + 0 ≤ _)⟩)
      dsimp only [Pt.U, Pt.locs, Pt.cells, Pt.slots] at X154 l154 y154 z154 st154 hQ154
      subst l154 y154 z154
      obtain ⟨rfl, N154q, e154⟩ := hQ154
      have N154 := Fr.app N147 N154q
      refine own_go (fun tgt cont => st154.trans cont) ?_
      show own_Go p e below s (Q0 n0) room_1.cells room_1.slots (T154.setTop (mkF m 189 #[.val (.int p1), .val (.int p2), .val (.int p3), .val (.int p4), .val (.int p5), .val (.int v1), .val (.int (2 : Int32)), .val (.int v126), .val (.int v127), .val (.int v128), .val (.int v129), .val (.int v130), .val (.int v131), .val (.ref b132), .val (.ref b147), .unset, .unset, .unset, .unset, .unset, .unset, .unset] [(.int v1)]))
      refine own_go (B := T154.setTop (mkF m 196 #[.val (.int p1), .val (.int p2), .val (.int p3), .val (.int p4), .val (.int p5), .val (.int v1), .val (.int (2 : Int32)), .val (.int v126), .val (.int v127), .val (.int v128), .val (.int v129), .val (.int v130), .val (.int v131), .val (.ref b132), .val (.ref b147), .unset, .unset, .unset, .unset, .unset, .unset, .unset] [(.ref b147)])) (fun tgt cont => ?_) ?_
      · refine XS.iload X154.here hx rfl (hb hby at_189) rfl ?_
        refine XS.icmpNo X154.here hx rfl (hb hby at_191) rfl (XT.ii_ne_f rfl) ?_
        refine XS.aload X154.here hx rfl (hb hby at_194) rfl rfl ?_
        exact cont
      -- pc 196: Graph.edgeCount
      obtain ⟨cq155, kq155, qa155, qb155, qc155⟩ := isOf hZ e154 eg147
      obtain ⟨_, _, ⟨T155, L155, k155, n155⟩, -, X155, ⟨Lc155, hQ155, l155, y155, z155⟩, st155⟩ := X154.virtualBack hx (y := (⟨"com/example/cyclecut/cyclecut/graph/Graph", "edgeCount", "()I"⟩ : MethodName)) (z := (⟨"com/example/cyclecut/cyclecut/graph/Graph", "edgeCount", "()I"⟩ : MethodName)) hown (mvT hZ (hw _ (List.mem_of_getElem? (i := 67) rfl))) (mvT hZ (hw _ (List.mem_of_getElem? (i := 68) rfl))) (notFace_of_selects (args := #[]) (mvT hZ (hw _ (List.mem_of_getElem? (i := 70) rfl)))) (mvT hZ (hw _ (List.mem_of_getElem? (i := 70) rfl))) (mvT hZ (hw _ (List.mem_of_getElem? (i := 69) rfl))) (by decide) (backOf (W := 0) (rm8 l Z a0 hw [] b147 xe147 w150 T147.heap n0 zp147 eg147 fl147_1 al147_0) hZ (hw _ (List.mem_of_getElem? (i := 71) rfl)) (hw _ (List.mem_of_getElem? (i := 23) rfl)) (by decide) (by decide)) qa155 qc155 (g := (mkF m 196 #[.val (.int p1), .val (.int p2), .val (.int p3), .val (.int p4), .val (.int p5), .val (.int v1), .val (.int (2 : Int32)), .val (.int v126), .val (.int v127), .val (.int v128), .val (.int v129), .val (.int v130), .val (.int v131), .val (.ref b132), .val (.ref b147), .unset, .unset, .unset, .unset, .unset, .unset, .unset] [(.ref b147)])) rfl (by rw [hml]; rfl) (Steps.refl _) (argsL := []) (rest := []) (lenOf own_pd4 rfl) rfl (by show 2 * 0 + _ ≤ _; exact Nat.le_of_eq rfl) (hb hby at_196) (fun _ _ => ⟨rfl, e154, (by decide : 0 + 1 + 2 + 0 + 0 + 7 + 0 + 0 ≤ _), (by decide : 0 + 4 + 24 + 0 + 0 + 150 + 0 + 0 ≤ _)⟩)
      dsimp only [Pt.U, Pt.locs, Pt.cells, Pt.slots] at X155 l155 y155 z155 st155 hQ155
      subst l155 y155 z155
      obtain ⟨rfl, N155q, e155⟩ := hQ155
      have N155 := Fr.app N154 N155q
      refine own_go (fun tgt cont => st155.trans cont) ?_
      show own_Go p e below s (Q0 n0) room_1.cells room_1.slots (T155.setTop (mkF m 199 #[.val (.int p1), .val (.int p2), .val (.int p3), .val (.int p4), .val (.int p5), .val (.int v1), .val (.int (2 : Int32)), .val (.int v126), .val (.int v127), .val (.int v128), .val (.int v129), .val (.int v130), .val (.int v131), .val (.ref b132), .val (.ref b147), .unset, .unset, .unset, .unset, .unset, .unset, .unset] [(.int (own_gec_r w150))]))
      generalize hr156 : (own_gec_r w150) = r156
      refine own_go (B := T155.setTop (mkF m 221 #[.val (.int p1), .val (.int p2), .val (.int p3), .val (.int p4), .val (.int p5), .val (.int v1), .val (.int (2 : Int32)), .val (.int v126), .val (.int v127), .val (.int v128), .val (.int v129), .val (.int v130), .val (.int v131), .val (.ref b132), .val (.ref b147), .unset, .unset, .unset, .unset, .unset, .unset, .unset] [(.int ((p4 &&& (255 : Int32)) % v1))])) (fun tgt cont => ?_) ?_
      · refine XS.iload X155.here hx rfl (hb hby at_199) rfl ?_
        refine XS.icmpYes X155.here hx rfl (pc0 := 201) (pc' := 206) rfl (hb hby at_201) rfl (XT.ii_eq_t (by rw [← hr156]; exact own_gec_2 ll)) (by decide) (by decide) ?_
        refine XS.iload X155.here hx rfl (hb hby at_206) rfl ?_
        refine XS.ifYes X155.here hx rfl (pc0 := 208) (pc' := 213) rfl (hb hby at_208) rfl (XT.i0_ne_t hc2) (by decide) (by decide) ?_
        refine XS.iloadN X155.here hx rfl (hb hby at_213) rfl ?_
        refine XT.sipushV X155.here hx rfl (255 : Int32) (hb hby at_214) rfl ?_
        refine XS.iand X155.here hx rfl (hb hby at_217) rfl ?_
        refine XS.iload X155.here hx rfl (hb hby at_218) rfl ?_
        refine iremM X155 hx rfl (hb hby at_220) rfl (own_n3c m1) ?_
        exact cont
      generalize hv157 : ((p4 &&& (255 : Int32)) % v1) = v157
      refine own_go (B := T155.setTop (mkF m 223 #[.val (.int p1), .val (.int p2), .val (.int p3), .val (.int p4), .val (.int p5), .val (.int v1), .val (.int (2 : Int32)), .val (.int v126), .val (.int v127), .val (.int v128), .val (.int v129), .val (.int v130), .val (.int v131), .val (.ref b132), .val (.ref b147), .val (.int v157), .unset, .unset, .unset, .unset, .unset, .unset] [])) (fun tgt cont => ?_) ?_
      · refine XS.istore X155.here hx rfl (hb hby at_221) rfl (l' := #[.val (.int p1), .val (.int p2), .val (.int p3), .val (.int p4), .val (.int p5), .val (.int v1), .val (.int (2 : Int32)), .val (.int v126), .val (.int v127), .val (.int v128), .val (.int v129), .val (.int v130), .val (.int v131), .val (.ref b132), .val (.ref b147), .val (.int v157), .unset, .unset, .unset, .unset, .unset, .unset]) rfl ?_
        exact cont
      have B_v157 : own_be v157 v1 := by rw [← hv157]; exact own_b255 m1
      refine own_go (B := T155.setTop (mkF m 225 #[.val (.int p1), .val (.int p2), .val (.int p3), .val (.int p4), .val (.int p5), .val (.int v1), .val (.int (2 : Int32)), .val (.int v126), .val (.int v127), .val (.int v128), .val (.int v129), .val (.int v130), .val (.int v131), .val (.ref b132), .val (.ref b147), .val (.int v157), .unset, .unset, .unset, .unset, .unset, .unset] [(.int (6 : Int32))])) (fun tgt cont => ?_) ?_
      · refine XT.bipushV X155.here hx rfl (6 : Int32) (hb hby at_223) rfl ?_
        exact cont
      have f159 := (ex142_0.keep K147)
      have f160 := (f148.keep K147)
      have f161 := (f149.keep K147)
      obtain ⟨T158, h158, X158, e158, E158, A158, AE158, st158⟩ := own_newIA X155 hx hZ (hw _ (List.mem_of_getElem? (i := 9) rfl)) e155 (g := (mkF m 225 #[.val (.int p1), .val (.int p2), .val (.int p3), .val (.int p4), .val (.int p5), .val (.int v1), .val (.int (2 : Int32)), .val (.int v126), .val (.int v127), .val (.int v128), .val (.int v129), .val (.int v130), .val (.int v131), .val (.ref b132), .val (.ref b147), .val (.int v157), .unset, .unset, .unset, .unset, .unset, .unset] [(.int (6 : Int32))])) rfl (hb hby at_225) rfl (by decide) (cap := 6) (by decide) (by decide) (by decide) (by decide)
      obtain ⟨b158, g158⟩ : ∃ z, z = T147.heap.size := ⟨_, rfl⟩
      rw [← g158] at A158 AE158 st158
      have g_b158 : n0 ≤ b158 := Nat.le_trans zp147 (Nat.le_of_eq g158.symm)
      have sz_b158 : h0.size ≤ b158 := Nat.le_trans kk147.1 (Nat.le_of_eq g158.symm)
      have ne_b132_b158 : b132 ≠ b158 := Nat.ne_of_lt (by rw [g158]; exact f159.lt)
      have ne_b133_0_b158 : b133_0 ≠ b158 := Nat.ne_of_lt (by rw [g158]; exact f160.lt)
      have ne_b133_1_b158 : b133_1 ≠ b158 := Nat.ne_of_lt (by rw [g158]; exact f161.lt)
      have ne_b147_b158 : b147 ≠ b158 := Nat.ne_of_lt (by rw [g158]; exact eg147.lt)
      have ne_xe147_b158 : xe147 ≠ b158 := Nat.ne_of_lt (by rw [g158]; exact al147_0.lt)
      have ne_xf147_b158 : xf147 ≠ b158 := Nat.ne_of_lt (by rw [g158]; exact al147_1.lt)
      have ne_xn147_b158 : xn147 ≠ b158 := Nat.ne_of_lt (by rw [g158]; exact al147_2.lt)
      have ne_xs147_b158 : xs147 ≠ b158 := Nat.ne_of_lt (by rw [g158]; exact al147_3.lt)
      have kk158 : Keep h0 h158 [] := kk147.ext E158
      have zp158 : n0 ≤ h158.size := Nat.le_trans Z0 kk158.1
      have A158v : own_IA Z h158 b158 [(0 : Int32), (0 : Int32), (0 : Int32), (0 : Int32), (0 : Int32), (0 : Int32)] := A158
      refine own_go (fun tgt cont => st158 tgt cont) ?_
      show own_Go p e below s (Q0 n0) room_1.cells room_1.slots (T158.setTop (mkF m 227 #[.val (.int p1), .val (.int p2), .val (.int p3), .val (.int p4), .val (.int p5), .val (.int v1), .val (.int (2 : Int32)), .val (.int v126), .val (.int v127), .val (.int v128), .val (.int v129), .val (.int v130), .val (.int v131), .val (.ref b132), .val (.ref b147), .val (.int v157), .unset, .unset, .unset, .unset, .unset, .unset] [(.ref b158)]))
      refine own_go (B := T158.setTop (mkF m 231 #[.val (.int p1), .val (.int p2), .val (.int p3), .val (.int p4), .val (.int p5), .val (.int v1), .val (.int (2 : Int32)), .val (.int v126), .val (.int v127), .val (.int v128), .val (.int v129), .val (.int v130), .val (.int v131), .val (.ref b132), .val (.ref b147), .val (.int v157), .val (.ref b158), .unset, .unset, .unset, .unset, .unset] [(.int (6 : Int32))])) (fun tgt cont => ?_) ?_
      · refine XS.astore X158.here hx rfl (hb hby at_227) rfl rfl (l' := #[.val (.int p1), .val (.int p2), .val (.int p3), .val (.int p4), .val (.int p5), .val (.int v1), .val (.int (2 : Int32)), .val (.int v126), .val (.int v127), .val (.int v128), .val (.int v129), .val (.int v130), .val (.int v131), .val (.ref b132), .val (.ref b147), .val (.int v157), .val (.ref b158), .unset, .unset, .unset, .unset, .unset]) rfl ?_
        refine XT.bipushV X158.here hx rfl (6 : Int32) (hb hby at_229) rfl ?_
        exact cont
      have f163 := (f159.ext E158)
      have f164 := (f160.ext E158)
      have f165 := (f161.ext E158)
      have f166 := (eg147.ext E158)
      have f167 := (al147_0.ext E158)
      have f168 := (al147_1.ext E158)
      have f169 := (al147_2.ext E158)
      have f170 := (al147_3.ext E158)
      obtain ⟨T162, h162, X162, e162, E162, A162, AE162, st162⟩ := own_newIA X158 hx hZ (hw _ (List.mem_of_getElem? (i := 9) rfl)) e158 (g := (mkF m 231 #[.val (.int p1), .val (.int p2), .val (.int p3), .val (.int p4), .val (.int p5), .val (.int v1), .val (.int (2 : Int32)), .val (.int v126), .val (.int v127), .val (.int v128), .val (.int v129), .val (.int v130), .val (.int v131), .val (.ref b132), .val (.ref b147), .val (.int v157), .val (.ref b158), .unset, .unset, .unset, .unset, .unset] [(.int (6 : Int32))])) rfl (hb hby at_231) rfl (by decide) (cap := 6) (by decide) (by decide) (by decide) (by decide)
      obtain ⟨b162, g162⟩ : ∃ z, z = h158.size := ⟨_, rfl⟩
      rw [← g162] at A162 AE162 st162
      have g_b162 : n0 ≤ b162 := Nat.le_trans zp158 (Nat.le_of_eq g162.symm)
      have sz_b162 : h0.size ≤ b162 := Nat.le_trans kk158.1 (Nat.le_of_eq g162.symm)
      have ne_b132_b162 : b132 ≠ b162 := Nat.ne_of_lt (by rw [g162]; exact f163.lt)
      have ne_b133_0_b162 : b133_0 ≠ b162 := Nat.ne_of_lt (by rw [g162]; exact f164.lt)
      have ne_b133_1_b162 : b133_1 ≠ b162 := Nat.ne_of_lt (by rw [g162]; exact f165.lt)
      have ne_b147_b162 : b147 ≠ b162 := Nat.ne_of_lt (by rw [g162]; exact f166.lt)
      have ne_xe147_b162 : xe147 ≠ b162 := Nat.ne_of_lt (by rw [g162]; exact f167.lt)
      have ne_xf147_b162 : xf147 ≠ b162 := Nat.ne_of_lt (by rw [g162]; exact f168.lt)
      have ne_xn147_b162 : xn147 ≠ b162 := Nat.ne_of_lt (by rw [g162]; exact f169.lt)
      have ne_xs147_b162 : xs147 ≠ b162 := Nat.ne_of_lt (by rw [g162]; exact f170.lt)
      have ne_b158_b162 : b158 ≠ b162 := Nat.ne_of_lt (by rw [g162]; exact A158v.lt)
      have kk162 : Keep h0 h162 [] := kk158.ext E162
      have zp162 : n0 ≤ h162.size := Nat.le_trans Z0 kk162.1
      have A162v : own_IA Z h162 b162 [(0 : Int32), (0 : Int32), (0 : Int32), (0 : Int32), (0 : Int32), (0 : Int32)] := A162
      refine own_go (fun tgt cont => st162 tgt cont) ?_
      show own_Go p e below s (Q0 n0) room_1.cells room_1.slots (T162.setTop (mkF m 233 #[.val (.int p1), .val (.int p2), .val (.int p3), .val (.int p4), .val (.int p5), .val (.int v1), .val (.int (2 : Int32)), .val (.int v126), .val (.int v127), .val (.int v128), .val (.int v129), .val (.int v130), .val (.int v131), .val (.ref b132), .val (.ref b147), .val (.int v157), .val (.ref b158), .unset, .unset, .unset, .unset, .unset] [(.ref b162)]))
      refine own_go (B := T162.setTop (mkF m 235 #[.val (.int p1), .val (.int p2), .val (.int p3), .val (.int p4), .val (.int p5), .val (.int v1), .val (.int (2 : Int32)), .val (.int v126), .val (.int v127), .val (.int v128), .val (.int v129), .val (.int v130), .val (.int v131), .val (.ref b132), .val (.ref b147), .val (.int v157), .val (.ref b158), .val (.ref b162), .unset, .unset, .unset, .unset] [])) (fun tgt cont => ?_) ?_
      · refine XS.astore X162.here hx rfl (hb hby at_233) rfl rfl (l' := #[.val (.int p1), .val (.int p2), .val (.int p3), .val (.int p4), .val (.int p5), .val (.int v1), .val (.int (2 : Int32)), .val (.int v126), .val (.int v127), .val (.int v128), .val (.int v129), .val (.int v130), .val (.int v131), .val (.ref b132), .val (.ref b147), .val (.int v157), .val (.ref b158), .val (.ref b162), .unset, .unset, .unset, .unset]) rfl ?_
        exact cont
      have NB0 : own_NB [] (own_f [v126, v127, v128, v129]) own_h v157 (0 : Int32) [(0 : Int32), (0 : Int32), (0 : Int32), (0 : Int32), (0 : Int32), (0 : Int32)] [(0 : Int32), (0 : Int32), (0 : Int32), (0 : Int32), (0 : Int32), (0 : Int32)] := own_NB0 _ _ _ rfl rfl
      refine own_go (B := T162.setTop (mkF m 254 #[.val (.int p1), .val (.int p2), .val (.int p3), .val (.int p4), .val (.int p5), .val (.int v1), .val (.int (2 : Int32)), .val (.int v126), .val (.int v127), .val (.int v128), .val (.int v129), .val (.int v130), .val (.int v131), .val (.ref b132), .val (.ref b147), .val (.int v157), .val (.ref b158), .val (.ref b162), .val (.int (0 : Int32)), .unset, .unset, .unset] [(.int v126), (.int (0 : Int32)), (.int v157), (.int (0 : Int32)), (.ref b162), (.ref b158)])) (fun tgt cont => ?_) ?_
      · refine XT.iconstV X162.here hx rfl (0 : Int32) (hb hby at_235) rfl ?_
        refine XS.istore X162.here hx rfl (hb hby at_236) rfl (l' := #[.val (.int p1), .val (.int p2), .val (.int p3), .val (.int p4), .val (.int p5), .val (.int v1), .val (.int (2 : Int32)), .val (.int v126), .val (.int v127), .val (.int v128), .val (.int v129), .val (.int v130), .val (.int v131), .val (.ref b132), .val (.ref b147), .val (.int v157), .val (.ref b158), .val (.ref b162), .val (.int (0 : Int32)), .unset, .unset, .unset]) rfl ?_
        refine XS.iload X162.here hx rfl (hb hby at_238) rfl ?_
        refine XS.ifNo X162.here hx rfl (hb hby at_240) rfl (XT.i0_le_f (by first | decide | exact (show 0 < (2 : Int32) from by decide))) ?_
        refine XS.aload X162.here hx rfl (hb hby at_243) rfl rfl ?_
        refine XS.aload X162.here hx rfl (hb hby at_245) rfl rfl ?_
        refine XS.iload X162.here hx rfl (hb hby at_247) rfl ?_
        refine XS.iload X162.here hx rfl (hb hby at_249) rfl ?_
        refine XT.iconstV X162.here hx rfl (0 : Int32) (hb hby at_251) rfl ?_
        refine XS.iload X162.here hx rfl (hb hby at_252) rfl ?_
        exact cont
      refine own_go (B := T162.setTop (mkF m 256 #[.val (.int p1), .val (.int p2), .val (.int p3), .val (.int p4), .val (.int p5), .val (.int v1), .val (.int (2 : Int32)), .val (.int v126), .val (.int v127), .val (.int v128), .val (.int v129), .val (.int v130), .val (.int v131), .val (.ref b132), .val (.ref b147), .val (.int v157), .val (.ref b158), .val (.ref b162), .val (.int (0 : Int32)), .unset, .unset, .unset] [(.int v127), (.int v126), (.int (0 : Int32)), (.int v157), (.int (0 : Int32)), (.ref b162), (.ref b158)])) (fun tgt cont => ?_) ?_
      · refine XS.iload X162.here hx rfl (hb hby at_254) rfl ?_
        exact cont
      have IC0 := own_icB NB0 (Nat.le_of_ble_eq_true rfl)
      -- pc 256: GraphBuilderBuildPinLaw.inc
      have f172 := (A158v.ext E162)
      obtain ⟨_, _, ⟨T171, L171, k171, n171⟩, -, X171, ⟨Lc171, hQ171, l171, y171, z171⟩, st171⟩ := Jvm.LawKit.callS X162 hx (y := (⟨"com/example/cyclecut/cyclecut/graph/GraphBuilderBuildPinLaw", "inc", "([I[IIIIII)I"⟩ : MethodName)) hown (mvT hZ (hw _ (List.mem_of_getElem? (i := 91) rfl))) (mvT hZ (hw _ (List.mem_of_getElem? (i := 92) rfl))) (mvT hZ (hw _ (List.mem_of_getElem? (i := 93) rfl))) (mvT hZ (hw _ (List.mem_of_getElem? (i := 94) rfl))) (by decide) (backOf (W := 0) (rm13 l Z a0 hw [] b158 b162 (0 : Int32) v157 (0 : Int32) v126 v127 ([(0 : Int32), (0 : Int32), (0 : Int32), (0 : Int32), (0 : Int32), (0 : Int32)]) ([(0 : Int32), (0 : Int32), (0 : Int32), (0 : Int32), (0 : Int32), (0 : Int32)]) h162 n0 zp162 f172 g_b158 A162v g_b162 ne_b158_b162 IC0.1 IC0.2.1 IC0.2.2.1 IC0.2.2.2) hZ (hw _ (List.mem_of_getElem? (i := 94) rfl)) (hw _ (List.mem_of_getElem? (i := 93) rfl)) (by decide) (by decide)) (g := (mkF m 256 #[.val (.int p1), .val (.int p2), .val (.int p3), .val (.int p4), .val (.int p5), .val (.int v1), .val (.int (2 : Int32)), .val (.int v126), .val (.int v127), .val (.int v128), .val (.int v129), .val (.int v130), .val (.int v131), .val (.ref b132), .val (.ref b147), .val (.int v157), .val (.ref b158), .val (.ref b162), .val (.int (0 : Int32)), .unset, .unset, .unset] [(.int v127), (.int v126), (.int (0 : Int32)), (.int v157), (.int (0 : Int32)), (.ref b162), (.ref b158)])) rfl (by rw [hml]; rfl) (argsL := [(.ref b158), (.ref b162), (.int (0 : Int32)), (.int v157), (.int (0 : Int32)), (.int v126), (.int v127)]) (rest := []) (lenOf own_pd8 rfl) rfl (by show 2 * 0 + _ ≤ _; exact Nat.le_of_eq rfl) (hb hby at_256) (fun _ _ => ⟨rfl, e162, (by decide : 0 + 1 + 2 + 0 + 0 + 7 + 0 + 0 + 1 + 1 + 0 ≤ _), (by decide : 0 + 4 + 24 + 0 + 0 + 150 + 0 + 0 + 6 + 6 + 0 ≤ _)⟩)
      dsimp only [Pt.U, Pt.locs, Pt.cells, Pt.slots] at X171 l171 y171 z171 st171 hQ171
      subst l171 y171 z171
      obtain ⟨rfl, N171q, K171, fa171_0, fa171_1⟩ := hQ171
      have N171 := Fr.app N155 N171q
      have kk171 : Keep h0 T171.heap [] := kk162.trans K171 (allS (Or.inr sz_b158) (allS (Or.inr sz_b162) all0))
      have zp171 : n0 ≤ T171.heap.size := Nat.le_trans Z0 kk171.1
      generalize hw173 : (own_inc_ns (0 : Int32) v157 v126 v127 [(0 : Int32), (0 : Int32), (0 : Int32), (0 : Int32), (0 : Int32), (0 : Int32)]) = w173 at fa171_0
      generalize hw174 : (own_inc_ms (0 : Int32) v157 (0 : Int32) v126 v127 [(0 : Int32), (0 : Int32), (0 : Int32), (0 : Int32), (0 : Int32), (0 : Int32)]) = w174 at fa171_1
      refine own_go (fun tgt cont => st171 tgt cont) ?_
      show own_Go p e below s (Q0 n0) room_1.cells room_1.slots (T171.setTop (mkF m 259 #[.val (.int p1), .val (.int p2), .val (.int p3), .val (.int p4), .val (.int p5), .val (.int v1), .val (.int (2 : Int32)), .val (.int v126), .val (.int v127), .val (.int v128), .val (.int v129), .val (.int v130), .val (.int v131), .val (.ref b132), .val (.ref b147), .val (.int v157), .val (.ref b158), .val (.ref b162), .val (.int (0 : Int32)), .unset, .unset, .unset] [(.int (own_inc_r (0 : Int32) v157 v126 v127))]))
      generalize hr175 : (own_inc_r (0 : Int32) v157 v126 v127) = r175
      have NB1 : own_NB [v126, v127] (own_f [v126, v127, v128, v129]) own_h v157 r175 w173 w174 := own_inE NB0 B_v126.1 B_v127.1 B_v157.1 0 1 rfl rfl (by decide) rfl rfl rfl rfl hr175 hw173 hw174
      refine own_go (B := T171.setTop (mkF m 278 #[.val (.int p1), .val (.int p2), .val (.int p3), .val (.int p4), .val (.int p5), .val (.int v1), .val (.int (2 : Int32)), .val (.int v126), .val (.int v127), .val (.int v128), .val (.int v129), .val (.int v130), .val (.int v131), .val (.ref b132), .val (.ref b147), .val (.int v157), .val (.ref b158), .val (.ref b162), .val (.int r175), .unset, .unset, .unset] [(.int v128), (.int (1 : Int32)), (.int v157), (.int r175), (.ref b162), (.ref b158)])) (fun tgt cont => ?_) ?_
      · refine XS.istore X171.here hx rfl (hb hby at_259) rfl (l' := #[.val (.int p1), .val (.int p2), .val (.int p3), .val (.int p4), .val (.int p5), .val (.int v1), .val (.int (2 : Int32)), .val (.int v126), .val (.int v127), .val (.int v128), .val (.int v129), .val (.int v130), .val (.int v131), .val (.ref b132), .val (.ref b147), .val (.int v157), .val (.ref b158), .val (.ref b162), .val (.int r175), .unset, .unset, .unset]) rfl ?_
        refine XS.iload X171.here hx rfl (hb hby at_261) rfl ?_
        refine XT.iconstV X171.here hx rfl (1 : Int32) (hb hby at_263) rfl ?_
        refine XS.icmpNo X171.here hx rfl (hb hby at_264) rfl (XT.ii_le_f (by first | decide | exact (show (1 : Int32) < (2 : Int32) from by decide))) ?_
        refine XS.aload X171.here hx rfl (hb hby at_267) rfl rfl ?_
        refine XS.aload X171.here hx rfl (hb hby at_269) rfl rfl ?_
        refine XS.iload X171.here hx rfl (hb hby at_271) rfl ?_
        refine XS.iload X171.here hx rfl (hb hby at_273) rfl ?_
        refine XT.iconstV X171.here hx rfl (1 : Int32) (hb hby at_275) rfl ?_
        refine XS.iload X171.here hx rfl (hb hby at_276) rfl ?_
        exact cont
      refine own_go (B := T171.setTop (mkF m 280 #[.val (.int p1), .val (.int p2), .val (.int p3), .val (.int p4), .val (.int p5), .val (.int v1), .val (.int (2 : Int32)), .val (.int v126), .val (.int v127), .val (.int v128), .val (.int v129), .val (.int v130), .val (.int v131), .val (.ref b132), .val (.ref b147), .val (.int v157), .val (.ref b158), .val (.ref b162), .val (.int r175), .unset, .unset, .unset] [(.int v129), (.int v128), (.int (1 : Int32)), (.int v157), (.int r175), (.ref b162), (.ref b158)])) (fun tgt cont => ?_) ?_
      · refine XS.iload X171.here hx rfl (hb hby at_278) rfl ?_
        exact cont
      have IC1 := own_icB NB1 (Nat.le_of_ble_eq_true rfl)
      -- pc 280: GraphBuilderBuildPinLaw.inc
      obtain ⟨_, _, ⟨T176, L176, k176, n176⟩, -, X176, ⟨Lc176, hQ176, l176, y176, z176⟩, st176⟩ := Jvm.LawKit.callS X171 hx (y := (⟨"com/example/cyclecut/cyclecut/graph/GraphBuilderBuildPinLaw", "inc", "([I[IIIIII)I"⟩ : MethodName)) hown (mvT hZ (hw _ (List.mem_of_getElem? (i := 91) rfl))) (mvT hZ (hw _ (List.mem_of_getElem? (i := 92) rfl))) (mvT hZ (hw _ (List.mem_of_getElem? (i := 93) rfl))) (mvT hZ (hw _ (List.mem_of_getElem? (i := 94) rfl))) (by decide) (backOf (W := 0) (rm13 l Z a0 hw [] b158 b162 r175 v157 (1 : Int32) v128 v129 w173 w174 T171.heap n0 zp171 fa171_0 g_b158 fa171_1 g_b162 ne_b158_b162 IC1.1 IC1.2.1 IC1.2.2.1 IC1.2.2.2) hZ (hw _ (List.mem_of_getElem? (i := 94) rfl)) (hw _ (List.mem_of_getElem? (i := 93) rfl)) (by decide) (by decide)) (g := (mkF m 280 #[.val (.int p1), .val (.int p2), .val (.int p3), .val (.int p4), .val (.int p5), .val (.int v1), .val (.int (2 : Int32)), .val (.int v126), .val (.int v127), .val (.int v128), .val (.int v129), .val (.int v130), .val (.int v131), .val (.ref b132), .val (.ref b147), .val (.int v157), .val (.ref b158), .val (.ref b162), .val (.int r175), .unset, .unset, .unset] [(.int v129), (.int v128), (.int (1 : Int32)), (.int v157), (.int r175), (.ref b162), (.ref b158)])) rfl (by rw [hml]; rfl) (argsL := [(.ref b158), (.ref b162), (.int r175), (.int v157), (.int (1 : Int32)), (.int v128), (.int v129)]) (rest := []) (lenOf own_pd8 rfl) rfl (by show 2 * 0 + _ ≤ _; exact Nat.le_of_eq rfl) (hb hby at_280) (fun _ _ => ⟨rfl, rfl, (by decide : 0 + 1 + 2 + 0 + 0 + 7 + 0 + 0 + 1 + 1 + 0 + 0 ≤ _), (by decide : 0 + 4 + 24 + 0 + 0 + 150 + 0 + 0 + 6 + 6 + 0 + 0 ≤ _)⟩)
      dsimp only [Pt.U, Pt.locs, Pt.cells, Pt.slots] at X176 l176 y176 z176 st176 hQ176
      subst l176 y176 z176
      obtain ⟨rfl, N176q, K176, fa176_0, fa176_1⟩ := hQ176
      have N176 := Fr.app N171 N176q
      have kk176 : Keep h0 T176.heap [] := kk171.trans K176 (allS (Or.inr sz_b158) (allS (Or.inr sz_b162) all0))
      have zp176 : n0 ≤ T176.heap.size := Nat.le_trans Z0 kk176.1
      generalize hw177 : (own_inc_ns r175 v157 v128 v129 w173) = w177 at fa176_0
      generalize hw178 : (own_inc_ms r175 v157 (1 : Int32) v128 v129 w174) = w178 at fa176_1
      refine own_go (fun tgt cont => st176 tgt cont) ?_
      show own_Go p e below s (Q0 n0) room_1.cells room_1.slots (T176.setTop (mkF m 283 #[.val (.int p1), .val (.int p2), .val (.int p3), .val (.int p4), .val (.int p5), .val (.int v1), .val (.int (2 : Int32)), .val (.int v126), .val (.int v127), .val (.int v128), .val (.int v129), .val (.int v130), .val (.int v131), .val (.ref b132), .val (.ref b147), .val (.int v157), .val (.ref b158), .val (.ref b162), .val (.int r175), .unset, .unset, .unset] [(.int (own_inc_r r175 v157 v128 v129))]))
      generalize hr179 : (own_inc_r r175 v157 v128 v129) = r179
      have NB2 : own_NB [v126, v127, v128, v129] (own_f [v126, v127, v128, v129]) own_h v157 r179 w177 w178 := own_inE NB1 B_v128.1 B_v129.1 B_v157.1 2 3 rfl rfl (by decide) rfl rfl rfl rfl hr179 hw177 hw178
      refine own_go (B := T176.setTop (mkF m 313 #[.val (.int p1), .val (.int p2), .val (.int p3), .val (.int p4), .val (.int p5), .val (.int v1), .val (.int (2 : Int32)), .val (.int v126), .val (.int v127), .val (.int v128), .val (.int v129), .val (.int v130), .val (.int v131), .val (.ref b132), .val (.ref b147), .val (.int v157), .val (.ref b158), .val (.ref b162), .val (.int r179), .unset, .unset, .unset] [(.int v157), (.ref b147)])) (fun tgt cont => ?_) ?_
      · refine XS.istore X176.here hx rfl (hb hby at_283) rfl (l' := #[.val (.int p1), .val (.int p2), .val (.int p3), .val (.int p4), .val (.int p5), .val (.int v1), .val (.int (2 : Int32)), .val (.int v126), .val (.int v127), .val (.int v128), .val (.int v129), .val (.int v130), .val (.int v131), .val (.ref b132), .val (.ref b147), .val (.int v157), .val (.ref b158), .val (.ref b162), .val (.int r179), .unset, .unset, .unset]) rfl ?_
        refine XS.iload X176.here hx rfl (hb hby at_285) rfl ?_
        refine XT.iconstV X176.here hx rfl (2 : Int32) (hb hby at_287) rfl ?_
        refine XS.icmpYes X176.here hx rfl (pc0 := 288) (pc' := 309) rfl (hb hby at_288) rfl (XT.ii_le_t (by first | decide | exact (show ¬ ((2 : Int32) < (2 : Int32)) from by decide))) (by decide) (by decide) ?_
        refine XS.aload X176.here hx rfl (hb hby at_309) rfl rfl ?_
        refine XS.iload X176.here hx rfl (hb hby at_311) rfl ?_
        exact cont
      -- pc 313: Graph.degree
      have f181 := (((f166.ext E162).keep K171).keep K176)
      have f182 := ((((fl147_0.ext E158).ext E162).keep K171 (ninS ne_b147_b158 (ninS ne_b147_b162 nin0))).keep K176 (ninS ne_b147_b158 (ninS ne_b147_b162 nin0)))
      have f183 := ((((fl147_2.ext E158).ext E162).keep K171 (ninS ne_b147_b158 (ninS ne_b147_b162 nin0))).keep K176 (ninS ne_b147_b158 (ninS ne_b147_b162 nin0)))
      have f184 := (((f168.ext E162).keep K171 (ninS ne_xf147_b158 (ninS ne_xf147_b162 nin0))).keep K176 (ninS ne_xf147_b158 (ninS ne_xf147_b162 nin0)))
      obtain ⟨cq180, kq180, qa180, qb180, qc180⟩ := isOf hZ rfl f181
      obtain ⟨_, _, ⟨T180, L180, k180, n180⟩, -, X180, ⟨Lc180, hQ180, l180, y180, z180⟩, st180⟩ := X176.virtualBack hx (y := (⟨"com/example/cyclecut/cyclecut/graph/Graph", "degree", "(I)I"⟩ : MethodName)) (z := (⟨"com/example/cyclecut/cyclecut/graph/Graph", "degree", "(I)I"⟩ : MethodName)) hown (mvT hZ (hw _ (List.mem_of_getElem? (i := 72) rfl))) (mvT hZ (hw _ (List.mem_of_getElem? (i := 73) rfl))) (notFace_of_selects (args := #[]) (mvT hZ (hw _ (List.mem_of_getElem? (i := 75) rfl)))) (mvT hZ (hw _ (List.mem_of_getElem? (i := 75) rfl))) (mvT hZ (hw _ (List.mem_of_getElem? (i := 74) rfl))) (by decide) (backOf (W := 0) (rm9 l Z a0 hw [] b147 v157 v1 xf147 w151 T176.heap n0 zp176 f181 f182 f183 f184 B_v157.1 B_v157.2.1 (own_g3 n1 GS B_v157) (own_g4 n1 GS B_v157)) hZ (hw _ (List.mem_of_getElem? (i := 76) rfl)) (hw _ (List.mem_of_getElem? (i := 23) rfl)) (by decide) (by decide)) qa180 qc180 (g := (mkF m 313 #[.val (.int p1), .val (.int p2), .val (.int p3), .val (.int p4), .val (.int p5), .val (.int v1), .val (.int (2 : Int32)), .val (.int v126), .val (.int v127), .val (.int v128), .val (.int v129), .val (.int v130), .val (.int v131), .val (.ref b132), .val (.ref b147), .val (.int v157), .val (.ref b158), .val (.ref b162), .val (.int r179), .unset, .unset, .unset] [(.int v157), (.ref b147)])) rfl (by rw [hml]; rfl) (Steps.refl _) (argsL := [(.int v157)]) (rest := []) (lenOf own_pd5 rfl) rfl (by show 2 * 0 + _ ≤ _; exact Nat.le_of_eq rfl) (hb hby at_313) (fun _ _ => ⟨rfl, rfl, (by decide : 0 + 1 + 2 + 0 + 0 + 7 + 0 + 0 + 1 + 1 + 0 + 0 + 0 ≤ _), (by decide : 0 + 4 + 24 + 0 + 0 + 150 + 0 + 0 + 6 + 6 + 0 + 0 + 0 ≤ _)⟩)
      dsimp only [Pt.U, Pt.locs, Pt.cells, Pt.slots] at X180 l180 y180 z180 st180 hQ180
      subst l180 y180 z180
      obtain ⟨rfl, N180q, e180⟩ := hQ180
      have N180 := Fr.app N176 N180q
      refine own_go (fun tgt cont => st180.trans cont) ?_
      show own_Go p e below s (Q0 n0) room_1.cells room_1.slots (T180.setTop (mkF m 316 #[.val (.int p1), .val (.int p2), .val (.int p3), .val (.int p4), .val (.int p5), .val (.int v1), .val (.int (2 : Int32)), .val (.int v126), .val (.int v127), .val (.int v128), .val (.int v129), .val (.int v130), .val (.int v131), .val (.ref b132), .val (.ref b147), .val (.int v157), .val (.ref b158), .val (.ref b162), .val (.int r179), .unset, .unset, .unset] [(.int (own_gdg_r v157 v1 w151))]))
      generalize hr185 : (own_gdg_r v157 v1 w151) = r185
      refine own_go (B := T180.setTop (mkF m 325 #[.val (.int p1), .val (.int p2), .val (.int p3), .val (.int p4), .val (.int p5), .val (.int v1), .val (.int (2 : Int32)), .val (.int v126), .val (.int v127), .val (.int v128), .val (.int v129), .val (.int v130), .val (.int v131), .val (.ref b132), .val (.ref b147), .val (.int v157), .val (.ref b158), .val (.ref b162), .val (.int r179), .unset, .unset, .unset] [(.int r179)])) (fun tgt cont => ?_) ?_
      · refine XS.iload X180.here hx rfl (hb hby at_316) rfl ?_
        refine XS.icmpYes X180.here hx rfl (pc0 := 318) (pc' := 323) rfl (hb hby at_318) rfl (XT.ii_eq_t (by rw [← hr185]; exact (own_degE n1 GS B_v157).trans NB2.2.2.1.symm)) (by decide) (by decide) ?_
        refine XS.iload X180.here hx rfl (hb hby at_323) rfl ?_
        exact cont
      have K186 : ∀ (T186 : State) (L186 : List Loc) (o187 : Slot) (X186 : Stand p l e room_1 s m #[(.int p1), (.int p2), (.int p3), (.int p4), (.int p5)] below meth c T186 L186 12 190) (e186 : T186.heap = T176.heap) (N186 : Fr n0 L186) (ho187 : o187 = .unset ∨ ∃ w, o187 = .val w ∧ w.category = 1), own_Go p e below s (Q0 n0) room_1.cells room_1.slots (T186.setTop (mkF m 377 #[.val (.int p1), .val (.int p2), .val (.int p3), .val (.int p4), .val (.int p5), .val (.int v1), .val (.int (2 : Int32)), .val (.int v126), .val (.int v127), .val (.int v128), .val (.int v129), .val (.int v130), .val (.int v131), .val (.ref b132), .val (.ref b147), .val (.int v157), .val (.ref b158), .val (.ref b162), .val (.int r179), o187, .unset, .unset] [])) := by
        intro T186 L186 o187 X186 e186 N186 ho187
        refine own_go (B := T186.setTop (mkF m 391 #[.val (.int p1), .val (.int p2), .val (.int p3), .val (.int p4), .val (.int p5), .val (.int v1), .val (.int (2 : Int32)), .val (.int v126), .val (.int v127), .val (.int v128), .val (.int v129), .val (.int v130), .val (.int v131), .val (.ref b132), .val (.ref b147), .val (.int v157), .val (.ref b158), .val (.ref b162), .val (.int r179), o187, .unset, .unset] [(.int ((p5 &&& (255 : Int32)) % (2 : Int32)))])) (fun tgt cont => ?_) ?_
        · refine XS.iload X186.here hx rfl (hb hby at_377) rfl ?_
          refine XS.ifNo X186.here hx rfl (hb hby at_379) rfl (XT.i0_le_f (by first | decide | exact (show 0 < (2 : Int32) from by decide))) ?_
          refine XS.iload X186.here hx rfl (hb hby at_382) rfl ?_
          refine XT.sipushV X186.here hx rfl (255 : Int32) (hb hby at_384) rfl ?_
          refine XS.iand X186.here hx rfl (hb hby at_387) rfl ?_
          refine XS.iload X186.here hx rfl (hb hby at_388) rfl ?_
          refine iremM X186 hx rfl (hb hby at_390) rfl (by decide) ?_
          exact cont
        generalize hv188 : ((p5 &&& (255 : Int32)) % (2 : Int32)) = v188
        refine own_go (B := T186.setTop (mkF m 393 #[.val (.int p1), .val (.int p2), .val (.int p3), .val (.int p4), .val (.int p5), .val (.int v1), .val (.int (2 : Int32)), .val (.int v126), .val (.int v127), .val (.int v128), .val (.int v129), .val (.int v130), .val (.int v131), .val (.ref b132), .val (.ref b147), .val (.int v157), .val (.ref b158), .val (.ref b162), .val (.int r179), .val (.int v188), .unset, .unset] [])) (fun tgt cont => ?_) ?_
        · refine XS.istore X186.here hx rfl (hb hby at_391) rfl (l' := #[.val (.int p1), .val (.int p2), .val (.int p3), .val (.int p4), .val (.int p5), .val (.int v1), .val (.int (2 : Int32)), .val (.int v126), .val (.int v127), .val (.int v128), .val (.int v129), .val (.int v130), .val (.int v131), .val (.ref b132), .val (.ref b147), .val (.int v157), .val (.ref b158), .val (.ref b162), .val (.int r179), .val (.int v188), .unset, .unset]) (XS.store1 (o := o187) rfl ho187 rfl) ?_
          exact cont
        have ee : v188 = (0 : Int32) ∨ v188 = (1 : Int32) := by rw [← hv188]; exact own_ek2 _
        rcases ee with rfl | rfl
        ·
          refine own_go (B := T186.setTop (mkF m 443 #[.val (.int p1), .val (.int p2), .val (.int p3), .val (.int p4), .val (.int p5), .val (.int v1), .val (.int (2 : Int32)), .val (.int v126), .val (.int v127), .val (.int v128), .val (.int v129), .val (.int v130), .val (.int v131), .val (.ref b132), .val (.ref b147), .val (.int v157), .val (.ref b158), .val (.ref b162), .val (.int r179), .val (.int (0 : Int32)), .val (.int v126), .val (.int v127)] [])) (fun tgt cont => ?_) ?_
          · refine XS.iload X186.here hx rfl (hb hby at_393) rfl ?_
            refine XS.ifNo X186.here hx rfl (hb hby at_395) rfl (XT.i0_ne_f (by first | decide | exact (show (0 : Int32) = 0 from by decide))) ?_
            refine XS.iload X186.here hx rfl (hb hby at_398) rfl ?_
            refine XS.goto X186.here hx rfl (pc0 := 400) (pc' := 416) rfl (hb hby at_400) (by decide) (by decide) ?_
            refine XS.istore X186.here hx rfl (hb hby at_416) rfl (l' := #[.val (.int p1), .val (.int p2), .val (.int p3), .val (.int p4), .val (.int p5), .val (.int v1), .val (.int (2 : Int32)), .val (.int v126), .val (.int v127), .val (.int v128), .val (.int v129), .val (.int v130), .val (.int v131), .val (.ref b132), .val (.ref b147), .val (.int v157), .val (.ref b158), .val (.ref b162), .val (.int r179), .val (.int (0 : Int32)), .val (.int v126), .unset]) rfl ?_
            refine XS.iload X186.here hx rfl (hb hby at_418) rfl ?_
            refine XS.ifNo X186.here hx rfl (hb hby at_420) rfl (XT.i0_ne_f (by first | decide | exact (show (0 : Int32) = 0 from by decide))) ?_
            refine XS.iload X186.here hx rfl (hb hby at_423) rfl ?_
            refine XS.goto X186.here hx rfl (pc0 := 425) (pc' := 441) rfl (hb hby at_425) (by decide) (by decide) ?_
            refine XS.istore X186.here hx rfl (hb hby at_441) rfl (l' := #[.val (.int p1), .val (.int p2), .val (.int p3), .val (.int p4), .val (.int p5), .val (.int v1), .val (.int (2 : Int32)), .val (.int v126), .val (.int v127), .val (.int v128), .val (.int v129), .val (.int v130), .val (.int v131), .val (.ref b132), .val (.ref b147), .val (.int v157), .val (.ref b158), .val (.ref b162), .val (.int r179), .val (.int (0 : Int32)), .val (.int v126), .val (.int v127)]) rfl ?_
            exact cont
          refine own_go (B := T186.setTop (mkF m 447 #[.val (.int p1), .val (.int p2), .val (.int p3), .val (.int p4), .val (.int p5), .val (.int v1), .val (.int (2 : Int32)), .val (.int v126), .val (.int v127), .val (.int v128), .val (.int v129), .val (.int v130), .val (.int v131), .val (.ref b132), .val (.ref b147), .val (.int v157), .val (.ref b158), .val (.ref b162), .val (.int r179), .val (.int (0 : Int32)), .val (.int v126), .val (.int v127)] [(.int (0 : Int32)), (.ref b147)])) (fun tgt cont => ?_) ?_
          · refine XS.aload X186.here hx rfl (hb hby at_443) rfl rfl ?_
            refine XS.iload X186.here hx rfl (hb hby at_445) rfl ?_
            exact cont
          -- pc 447: Graph.firstEnd
          have f190 := ((((fl147_1.ext E158).ext E162).keep K171 (ninS ne_b147_b158 (ninS ne_b147_b162 nin0))).keep K176 (ninS ne_b147_b158 (ninS ne_b147_b162 nin0)))
          have f191 := (((f167.ext E162).keep K171 (ninS ne_xe147_b158 (ninS ne_xe147_b162 nin0))).keep K176 (ninS ne_xe147_b158 (ninS ne_xe147_b162 nin0)))
          obtain ⟨cq189, kq189, qa189, qb189, qc189⟩ := isOf hZ e186 f181
          obtain ⟨_, _, ⟨T189, L189, k189, n189⟩, -, X189, ⟨Lc189, hQ189, l189, y189, z189⟩, st189⟩ := X186.virtualBack hx (y := (⟨"com/example/cyclecut/cyclecut/graph/Graph", "firstEnd", "(I)I"⟩ : MethodName)) (z := (⟨"com/example/cyclecut/cyclecut/graph/Graph", "firstEnd", "(I)I"⟩ : MethodName)) hown (mvT hZ (hw _ (List.mem_of_getElem? (i := 110) rfl))) (mvT hZ (hw _ (List.mem_of_getElem? (i := 111) rfl))) (notFace_of_selects (args := #[]) (mvT hZ (hw _ (List.mem_of_getElem? (i := 113) rfl)))) (mvT hZ (hw _ (List.mem_of_getElem? (i := 113) rfl))) (mvT hZ (hw _ (List.mem_of_getElem? (i := 112) rfl))) (by decide) (backOf (W := 0) (rm17 l Z a0 hw [] b147 (0 : Int32) xe147 w150 T176.heap n0 zp176 f181 f190 f191 (by decide) (own_q2_2_0 ll) (own_q3_2_0 ll)) hZ (hw _ (List.mem_of_getElem? (i := 114) rfl)) (hw _ (List.mem_of_getElem? (i := 23) rfl)) (by decide) (by decide)) qa189 qc189 (g := (mkF m 447 #[.val (.int p1), .val (.int p2), .val (.int p3), .val (.int p4), .val (.int p5), .val (.int v1), .val (.int (2 : Int32)), .val (.int v126), .val (.int v127), .val (.int v128), .val (.int v129), .val (.int v130), .val (.int v131), .val (.ref b132), .val (.ref b147), .val (.int v157), .val (.ref b158), .val (.ref b162), .val (.int r179), .val (.int (0 : Int32)), .val (.int v126), .val (.int v127)] [(.int (0 : Int32)), (.ref b147)])) rfl (by rw [hml]; rfl) (Steps.refl _) (argsL := [(.int (0 : Int32))]) (rest := []) (lenOf own_pd5 rfl) rfl (by show 2 * 0 + _ ≤ _; exact Nat.le_of_eq rfl) (hb hby at_447) (fun _ _ => ⟨rfl, e186, (by decide : 12 + 0 ≤ _), (by decide : 190 + 0 ≤ _)⟩)
          dsimp only [Pt.U, Pt.locs, Pt.cells, Pt.slots] at X189 l189 y189 z189 st189 hQ189
          subst l189 y189 z189
          obtain ⟨rfl, N189q, e189⟩ := hQ189
          have N189 := Fr.app N186 N189q
          refine own_go (fun tgt cont => st189.trans cont) ?_
          show own_Go p e below s (Q0 n0) room_1.cells room_1.slots (T189.setTop (mkF m 450 #[.val (.int p1), .val (.int p2), .val (.int p3), .val (.int p4), .val (.int p5), .val (.int v1), .val (.int (2 : Int32)), .val (.int v126), .val (.int v127), .val (.int v128), .val (.int v129), .val (.int v130), .val (.int v131), .val (.ref b132), .val (.ref b147), .val (.int v157), .val (.ref b158), .val (.ref b162), .val (.int r179), .val (.int (0 : Int32)), .val (.int v126), .val (.int v127)] [(.int (own_gfir_r (0 : Int32) w150))]))
          generalize hr192 : (own_gfir_r (0 : Int32) w150) = r192
          refine own_go (B := T189.setTop (mkF m 459 #[.val (.int p1), .val (.int p2), .val (.int p3), .val (.int p4), .val (.int p5), .val (.int v1), .val (.int (2 : Int32)), .val (.int v126), .val (.int v127), .val (.int v128), .val (.int v129), .val (.int v130), .val (.int v131), .val (.ref b132), .val (.ref b147), .val (.int v157), .val (.ref b158), .val (.ref b162), .val (.int r179), .val (.int (0 : Int32)), .val (.int v126), .val (.int v127)] [(.int (0 : Int32)), (.ref b147)])) (fun tgt cont => ?_) ?_
          · refine XS.iload X189.here hx rfl (hb hby at_450) rfl ?_
            refine XS.icmpNo X189.here hx rfl (hb hby at_452) rfl (XT.ii_ne_f (by rw [← hr192, le]; exact own_f_2_0 ..)) ?_
            refine XS.aload X189.here hx rfl (hb hby at_455) rfl rfl ?_
            refine XS.iload X189.here hx rfl (hb hby at_457) rfl ?_
            exact cont
          -- pc 459: Graph.secondEnd
          obtain ⟨cq193, kq193, qa193, qb193, qc193⟩ := isOf hZ e189 f181
          obtain ⟨_, _, ⟨T193, L193, k193, n193⟩, -, X193, ⟨Lc193, hQ193, l193, y193, z193⟩, st193⟩ := X189.virtualBack hx (y := (⟨"com/example/cyclecut/cyclecut/graph/Graph", "secondEnd", "(I)I"⟩ : MethodName)) (z := (⟨"com/example/cyclecut/cyclecut/graph/Graph", "secondEnd", "(I)I"⟩ : MethodName)) hown (mvT hZ (hw _ (List.mem_of_getElem? (i := 116) rfl))) (mvT hZ (hw _ (List.mem_of_getElem? (i := 117) rfl))) (notFace_of_selects (args := #[]) (mvT hZ (hw _ (List.mem_of_getElem? (i := 119) rfl)))) (mvT hZ (hw _ (List.mem_of_getElem? (i := 119) rfl))) (mvT hZ (hw _ (List.mem_of_getElem? (i := 118) rfl))) (by decide) (backOf (W := 0) (rm18 l Z a0 hw [] b147 (0 : Int32) xe147 w150 T176.heap n0 zp176 f181 f190 f191 (by decide) (own_q2_2_0 ll) (own_q4_2_0 ll)) hZ (hw _ (List.mem_of_getElem? (i := 120) rfl)) (hw _ (List.mem_of_getElem? (i := 23) rfl)) (by decide) (by decide)) qa193 qc193 (g := (mkF m 459 #[.val (.int p1), .val (.int p2), .val (.int p3), .val (.int p4), .val (.int p5), .val (.int v1), .val (.int (2 : Int32)), .val (.int v126), .val (.int v127), .val (.int v128), .val (.int v129), .val (.int v130), .val (.int v131), .val (.ref b132), .val (.ref b147), .val (.int v157), .val (.ref b158), .val (.ref b162), .val (.int r179), .val (.int (0 : Int32)), .val (.int v126), .val (.int v127)] [(.int (0 : Int32)), (.ref b147)])) rfl (by rw [hml]; rfl) (Steps.refl _) (argsL := [(.int (0 : Int32))]) (rest := []) (lenOf own_pd5 rfl) rfl (by show 2 * 0 + _ ≤ _; exact Nat.le_of_eq rfl) (hb hby at_459) (fun _ _ => ⟨rfl, e189, (by decide : 12 + 0 + 0 ≤ _), (by decide : 190 + 0 + 0 ≤ _)⟩)
          dsimp only [Pt.U, Pt.locs, Pt.cells, Pt.slots] at X193 l193 y193 z193 st193 hQ193
          subst l193 y193 z193
          obtain ⟨rfl, N193q, e193⟩ := hQ193
          have N193 := Fr.app N189 N193q
          refine own_go (fun tgt cont => st193.trans cont) ?_
          show own_Go p e below s (Q0 n0) room_1.cells room_1.slots (T193.setTop (mkF m 462 #[.val (.int p1), .val (.int p2), .val (.int p3), .val (.int p4), .val (.int p5), .val (.int v1), .val (.int (2 : Int32)), .val (.int v126), .val (.int v127), .val (.int v128), .val (.int v129), .val (.int v130), .val (.int v131), .val (.ref b132), .val (.ref b147), .val (.int v157), .val (.ref b158), .val (.ref b162), .val (.int r179), .val (.int (0 : Int32)), .val (.int v126), .val (.int v127)] [(.int (own_gsec_r (0 : Int32) w150))]))
          generalize hr194 : (own_gsec_r (0 : Int32) w150) = r194
          refine own_go (B := T193.setTop (mkF m 470 #[.val (.int p1), .val (.int p2), .val (.int p3), .val (.int p4), .val (.int p5), .val (.int v1), .val (.int (2 : Int32)), .val (.int v126), .val (.int v127), .val (.int v128), .val (.int v129), .val (.int v130), .val (.int v131), .val (.ref b132), .val (.ref b147), .val (.int v157), .val (.ref b158), .val (.ref b162), .val (.int r179), .val (.int (0 : Int32)), .val (.int v126), .val (.int v127)] [(.int (1 : Int32))])) (fun tgt cont => ?_) ?_
          · refine XS.iload X193.here hx rfl (hb hby at_462) rfl ?_
            refine XS.icmpYes X193.here hx rfl (pc0 := 464) (pc' := 469) rfl (hb hby at_464) rfl (XT.ii_eq_t (by rw [← hr194, le]; exact own_s_2_0 ..)) (by decide) (by decide) ?_
            refine XT.iconstV X193.here hx rfl (1 : Int32) (hb hby at_469) rfl ?_
            exact cont
          refine own_end X193 (v := some (.int (1 : Int32))) (fun h => by rw [Bd.returns] at h; cases h) hlk ?_ (by decide) (by decide) (fun fs hl => retN X193 hx (t := .boolean) Bd.returns (by simp) (hb hby at_470) hl)
          exact ⟨rfl, N193⟩
        ·
          refine own_go (B := T186.setTop (mkF m 430 #[.val (.int p1), .val (.int p2), .val (.int p3), .val (.int p4), .val (.int p5), .val (.int v1), .val (.int (2 : Int32)), .val (.int v126), .val (.int v127), .val (.int v128), .val (.int v129), .val (.int v130), .val (.int v131), .val (.ref b132), .val (.ref b147), .val (.int v157), .val (.ref b158), .val (.ref b162), .val (.int r179), .val (.int (1 : Int32)), .val (.int v128), .unset] [(.int (1 : Int32))])) (fun tgt cont => ?_) ?_
          · refine XS.iload X186.here hx rfl (hb hby at_393) rfl ?_
            refine XS.ifYes X186.here hx rfl (pc0 := 395) (pc' := 403) rfl (hb hby at_395) rfl (XT.i0_ne_t (by first | decide | exact (show ¬ ((1 : Int32) = 0) from by decide))) (by decide) (by decide) ?_
            refine XS.iload X186.here hx rfl (hb hby at_403) rfl ?_
            refine XT.iconstV X186.here hx rfl (1 : Int32) (hb hby at_405) rfl ?_
            refine XS.icmpNo X186.here hx rfl (hb hby at_406) rfl (XT.ii_ne_f (by first | decide | exact (show (1 : Int32) = (1 : Int32) from by decide))) ?_
            refine XS.iload X186.here hx rfl (hb hby at_409) rfl ?_
            refine XS.goto X186.here hx rfl (pc0 := 411) (pc' := 416) rfl (hb hby at_411) (by decide) (by decide) ?_
            refine XS.istore X186.here hx rfl (hb hby at_416) rfl (l' := #[.val (.int p1), .val (.int p2), .val (.int p3), .val (.int p4), .val (.int p5), .val (.int v1), .val (.int (2 : Int32)), .val (.int v126), .val (.int v127), .val (.int v128), .val (.int v129), .val (.int v130), .val (.int v131), .val (.ref b132), .val (.ref b147), .val (.int v157), .val (.ref b158), .val (.ref b162), .val (.int r179), .val (.int (1 : Int32)), .val (.int v128), .unset]) rfl ?_
            refine XS.iload X186.here hx rfl (hb hby at_418) rfl ?_
            refine XS.ifYes X186.here hx rfl (pc0 := 420) (pc' := 428) rfl (hb hby at_420) rfl (XT.i0_ne_t (by first | decide | exact (show ¬ ((1 : Int32) = 0) from by decide))) (by decide) (by decide) ?_
            refine XS.iload X186.here hx rfl (hb hby at_428) rfl ?_
            exact cont
          refine own_go (B := T186.setTop (mkF m 447 #[.val (.int p1), .val (.int p2), .val (.int p3), .val (.int p4), .val (.int p5), .val (.int v1), .val (.int (2 : Int32)), .val (.int v126), .val (.int v127), .val (.int v128), .val (.int v129), .val (.int v130), .val (.int v131), .val (.ref b132), .val (.ref b147), .val (.int v157), .val (.ref b158), .val (.ref b162), .val (.int r179), .val (.int (1 : Int32)), .val (.int v128), .val (.int v129)] [(.int (1 : Int32)), (.ref b147)])) (fun tgt cont => ?_) ?_
          · refine XT.iconstV X186.here hx rfl (1 : Int32) (hb hby at_430) rfl ?_
            refine XS.icmpNo X186.here hx rfl (hb hby at_431) rfl (XT.ii_ne_f (by first | decide | exact (show (1 : Int32) = (1 : Int32) from by decide))) ?_
            refine XS.iload X186.here hx rfl (hb hby at_434) rfl ?_
            refine XS.goto X186.here hx rfl (pc0 := 436) (pc' := 441) rfl (hb hby at_436) (by decide) (by decide) ?_
            refine XS.istore X186.here hx rfl (hb hby at_441) rfl (l' := #[.val (.int p1), .val (.int p2), .val (.int p3), .val (.int p4), .val (.int p5), .val (.int v1), .val (.int (2 : Int32)), .val (.int v126), .val (.int v127), .val (.int v128), .val (.int v129), .val (.int v130), .val (.int v131), .val (.ref b132), .val (.ref b147), .val (.int v157), .val (.ref b158), .val (.ref b162), .val (.int r179), .val (.int (1 : Int32)), .val (.int v128), .val (.int v129)]) rfl ?_
            refine XS.aload X186.here hx rfl (hb hby at_443) rfl rfl ?_
            refine XS.iload X186.here hx rfl (hb hby at_445) rfl ?_
            exact cont
          -- pc 447: Graph.firstEnd
          have f196 := ((((fl147_1.ext E158).ext E162).keep K171 (ninS ne_b147_b158 (ninS ne_b147_b162 nin0))).keep K176 (ninS ne_b147_b158 (ninS ne_b147_b162 nin0)))
          have f197 := (((f167.ext E162).keep K171 (ninS ne_xe147_b158 (ninS ne_xe147_b162 nin0))).keep K176 (ninS ne_xe147_b158 (ninS ne_xe147_b162 nin0)))
          obtain ⟨cq195, kq195, qa195, qb195, qc195⟩ := isOf hZ e186 f181
          obtain ⟨_, _, ⟨T195, L195, k195, n195⟩, -, X195, ⟨Lc195, hQ195, l195, y195, z195⟩, st195⟩ := X186.virtualBack hx (y := (⟨"com/example/cyclecut/cyclecut/graph/Graph", "firstEnd", "(I)I"⟩ : MethodName)) (z := (⟨"com/example/cyclecut/cyclecut/graph/Graph", "firstEnd", "(I)I"⟩ : MethodName)) hown (mvT hZ (hw _ (List.mem_of_getElem? (i := 110) rfl))) (mvT hZ (hw _ (List.mem_of_getElem? (i := 111) rfl))) (notFace_of_selects (args := #[]) (mvT hZ (hw _ (List.mem_of_getElem? (i := 113) rfl)))) (mvT hZ (hw _ (List.mem_of_getElem? (i := 113) rfl))) (mvT hZ (hw _ (List.mem_of_getElem? (i := 112) rfl))) (by decide) (backOf (W := 0) (rm17 l Z a0 hw [] b147 (1 : Int32) xe147 w150 T176.heap n0 zp176 f181 f196 f197 (by decide) (own_q2_2_1 ll) (own_q3_2_1 ll)) hZ (hw _ (List.mem_of_getElem? (i := 114) rfl)) (hw _ (List.mem_of_getElem? (i := 23) rfl)) (by decide) (by decide)) qa195 qc195 (g := (mkF m 447 #[.val (.int p1), .val (.int p2), .val (.int p3), .val (.int p4), .val (.int p5), .val (.int v1), .val (.int (2 : Int32)), .val (.int v126), .val (.int v127), .val (.int v128), .val (.int v129), .val (.int v130), .val (.int v131), .val (.ref b132), .val (.ref b147), .val (.int v157), .val (.ref b158), .val (.ref b162), .val (.int r179), .val (.int (1 : Int32)), .val (.int v128), .val (.int v129)] [(.int (1 : Int32)), (.ref b147)])) rfl (by rw [hml]; rfl) (Steps.refl _) (argsL := [(.int (1 : Int32))]) (rest := []) (lenOf own_pd5 rfl) rfl (by show 2 * 0 + _ ≤ _; exact Nat.le_of_eq rfl) (hb hby at_447) (fun _ _ => ⟨rfl, e186, (by decide : 12 + 0 ≤ _), (by decide : 190 + 0 ≤ _)⟩)
          dsimp only [Pt.U, Pt.locs, Pt.cells, Pt.slots] at X195 l195 y195 z195 st195 hQ195
          subst l195 y195 z195
          obtain ⟨rfl, N195q, e195⟩ := hQ195
          have N195 := Fr.app N186 N195q
          refine own_go (fun tgt cont => st195.trans cont) ?_
          show own_Go p e below s (Q0 n0) room_1.cells room_1.slots (T195.setTop (mkF m 450 #[.val (.int p1), .val (.int p2), .val (.int p3), .val (.int p4), .val (.int p5), .val (.int v1), .val (.int (2 : Int32)), .val (.int v126), .val (.int v127), .val (.int v128), .val (.int v129), .val (.int v130), .val (.int v131), .val (.ref b132), .val (.ref b147), .val (.int v157), .val (.ref b158), .val (.ref b162), .val (.int r179), .val (.int (1 : Int32)), .val (.int v128), .val (.int v129)] [(.int (own_gfir_r (1 : Int32) w150))]))
          generalize hr198 : (own_gfir_r (1 : Int32) w150) = r198
          refine own_go (B := T195.setTop (mkF m 459 #[.val (.int p1), .val (.int p2), .val (.int p3), .val (.int p4), .val (.int p5), .val (.int v1), .val (.int (2 : Int32)), .val (.int v126), .val (.int v127), .val (.int v128), .val (.int v129), .val (.int v130), .val (.int v131), .val (.ref b132), .val (.ref b147), .val (.int v157), .val (.ref b158), .val (.ref b162), .val (.int r179), .val (.int (1 : Int32)), .val (.int v128), .val (.int v129)] [(.int (1 : Int32)), (.ref b147)])) (fun tgt cont => ?_) ?_
          · refine XS.iload X195.here hx rfl (hb hby at_450) rfl ?_
            refine XS.icmpNo X195.here hx rfl (hb hby at_452) rfl (XT.ii_ne_f (by rw [← hr198, le]; exact own_f_2_1 ..)) ?_
            refine XS.aload X195.here hx rfl (hb hby at_455) rfl rfl ?_
            refine XS.iload X195.here hx rfl (hb hby at_457) rfl ?_
            exact cont
          -- pc 459: Graph.secondEnd
          obtain ⟨cq199, kq199, qa199, qb199, qc199⟩ := isOf hZ e195 f181
          obtain ⟨_, _, ⟨T199, L199, k199, n199⟩, -, X199, ⟨Lc199, hQ199, l199, y199, z199⟩, st199⟩ := X195.virtualBack hx (y := (⟨"com/example/cyclecut/cyclecut/graph/Graph", "secondEnd", "(I)I"⟩ : MethodName)) (z := (⟨"com/example/cyclecut/cyclecut/graph/Graph", "secondEnd", "(I)I"⟩ : MethodName)) hown (mvT hZ (hw _ (List.mem_of_getElem? (i := 116) rfl))) (mvT hZ (hw _ (List.mem_of_getElem? (i := 117) rfl))) (notFace_of_selects (args := #[]) (mvT hZ (hw _ (List.mem_of_getElem? (i := 119) rfl)))) (mvT hZ (hw _ (List.mem_of_getElem? (i := 119) rfl))) (mvT hZ (hw _ (List.mem_of_getElem? (i := 118) rfl))) (by decide) (backOf (W := 0) (rm18 l Z a0 hw [] b147 (1 : Int32) xe147 w150 T176.heap n0 zp176 f181 f196 f197 (by decide) (own_q2_2_1 ll) (own_q4_2_1 ll)) hZ (hw _ (List.mem_of_getElem? (i := 120) rfl)) (hw _ (List.mem_of_getElem? (i := 23) rfl)) (by decide) (by decide)) qa199 qc199 (g := (mkF m 459 #[.val (.int p1), .val (.int p2), .val (.int p3), .val (.int p4), .val (.int p5), .val (.int v1), .val (.int (2 : Int32)), .val (.int v126), .val (.int v127), .val (.int v128), .val (.int v129), .val (.int v130), .val (.int v131), .val (.ref b132), .val (.ref b147), .val (.int v157), .val (.ref b158), .val (.ref b162), .val (.int r179), .val (.int (1 : Int32)), .val (.int v128), .val (.int v129)] [(.int (1 : Int32)), (.ref b147)])) rfl (by rw [hml]; rfl) (Steps.refl _) (argsL := [(.int (1 : Int32))]) (rest := []) (lenOf own_pd5 rfl) rfl (by show 2 * 0 + _ ≤ _; exact Nat.le_of_eq rfl) (hb hby at_459) (fun _ _ => ⟨rfl, e195, (by decide : 12 + 0 + 0 ≤ _), (by decide : 190 + 0 + 0 ≤ _)⟩)
          dsimp only [Pt.U, Pt.locs, Pt.cells, Pt.slots] at X199 l199 y199 z199 st199 hQ199
          subst l199 y199 z199
          obtain ⟨rfl, N199q, e199⟩ := hQ199
          have N199 := Fr.app N195 N199q
          refine own_go (fun tgt cont => st199.trans cont) ?_
          show own_Go p e below s (Q0 n0) room_1.cells room_1.slots (T199.setTop (mkF m 462 #[.val (.int p1), .val (.int p2), .val (.int p3), .val (.int p4), .val (.int p5), .val (.int v1), .val (.int (2 : Int32)), .val (.int v126), .val (.int v127), .val (.int v128), .val (.int v129), .val (.int v130), .val (.int v131), .val (.ref b132), .val (.ref b147), .val (.int v157), .val (.ref b158), .val (.ref b162), .val (.int r179), .val (.int (1 : Int32)), .val (.int v128), .val (.int v129)] [(.int (own_gsec_r (1 : Int32) w150))]))
          generalize hr200 : (own_gsec_r (1 : Int32) w150) = r200
          refine own_go (B := T199.setTop (mkF m 470 #[.val (.int p1), .val (.int p2), .val (.int p3), .val (.int p4), .val (.int p5), .val (.int v1), .val (.int (2 : Int32)), .val (.int v126), .val (.int v127), .val (.int v128), .val (.int v129), .val (.int v130), .val (.int v131), .val (.ref b132), .val (.ref b147), .val (.int v157), .val (.ref b158), .val (.ref b162), .val (.int r179), .val (.int (1 : Int32)), .val (.int v128), .val (.int v129)] [(.int (1 : Int32))])) (fun tgt cont => ?_) ?_
          · refine XS.iload X199.here hx rfl (hb hby at_462) rfl ?_
            refine XS.icmpYes X199.here hx rfl (pc0 := 464) (pc' := 469) rfl (hb hby at_464) rfl (XT.ii_eq_t (by rw [← hr200, le]; exact own_s_2_1 ..)) (by decide) (by decide) ?_
            refine XT.iconstV X199.here hx rfl (1 : Int32) (hb hby at_469) rfl ?_
            exact cont
          refine own_end X199 (v := some (.int (1 : Int32))) (fun h => by rw [Bd.returns] at h; cases h) hlk ?_ (by decide) (by decide) (fun fs hl => retN X199 hx (t := .boolean) Bd.returns (by simp) (hb hby at_470) hl)
          exact ⟨rfl, N199⟩
      by_cases hc201 : 0 < r179
      ·
        refine own_go (B := T180.setTop (mkF m 339 #[.val (.int p1), .val (.int p2), .val (.int p3), .val (.int p4), .val (.int p5), .val (.int v1), .val (.int (2 : Int32)), .val (.int v126), .val (.int v127), .val (.int v128), .val (.int v129), .val (.int v130), .val (.int v131), .val (.ref b132), .val (.ref b147), .val (.int v157), .val (.ref b158), .val (.ref b162), .val (.int r179), .unset, .unset, .unset] [(.int ((((p4.toUInt32 >>> ((8 : Int32) &&& 31).toUInt32).toInt32) &&& (255 : Int32)) % r179))])) (fun tgt cont => ?_) ?_
        · refine XS.ifNo X180.here hx rfl (hb hby at_325) rfl (XT.i0_le_f hc201) ?_
          refine XS.iloadN X180.here hx rfl (hb hby at_328) rfl ?_
          refine XT.bipushV X180.here hx rfl (8 : Int32) (hb hby at_329) rfl ?_
          refine XS.iushr X180.here hx rfl (hb hby at_331) rfl ?_
          refine XT.sipushV X180.here hx rfl (255 : Int32) (hb hby at_332) rfl ?_
          refine XS.iand X180.here hx rfl (hb hby at_335) rfl ?_
          refine XS.iload X180.here hx rfl (hb hby at_336) rfl ?_
          refine iremM X180 hx rfl (hb hby at_338) rfl (own_cz hc201) ?_
          exact cont
        generalize hv202 : ((((p4.toUInt32 >>> ((8 : Int32) &&& 31).toUInt32).toInt32) &&& (255 : Int32)) % r179) = v202
        refine own_go (B := T180.setTop (mkF m 341 #[.val (.int p1), .val (.int p2), .val (.int p3), .val (.int p4), .val (.int p5), .val (.int v1), .val (.int (2 : Int32)), .val (.int v126), .val (.int v127), .val (.int v128), .val (.int v129), .val (.int v130), .val (.int v131), .val (.ref b132), .val (.ref b147), .val (.int v157), .val (.ref b158), .val (.ref b162), .val (.int r179), .val (.int v202), .unset, .unset] [])) (fun tgt cont => ?_) ?_
        · refine XS.istore X180.here hx rfl (hb hby at_339) rfl (l' := #[.val (.int p1), .val (.int p2), .val (.int p3), .val (.int p4), .val (.int p5), .val (.int v1), .val (.int (2 : Int32)), .val (.int v126), .val (.int v127), .val (.int v128), .val (.int v129), .val (.int v130), .val (.int v131), .val (.ref b132), .val (.ref b147), .val (.int v157), .val (.ref b158), .val (.ref b162), .val (.int r179), .val (.int v202), .unset, .unset]) rfl ?_
          exact cont
        have I1 : ¬ v202 < 0 ∧ v202 < r179 := by rw [← hv202]; exact own_iB hc201
        have T2 : v202 < own_gdg_r v157 v1 w151 := by rw [own_degE n1 GS B_v157, ← NB2.2.2.1]; exact I1.2
        refine own_go (B := T180.setTop (mkF m 347 #[.val (.int p1), .val (.int p2), .val (.int p3), .val (.int p4), .val (.int p5), .val (.int v1), .val (.int (2 : Int32)), .val (.int v126), .val (.int v127), .val (.int v128), .val (.int v129), .val (.int v130), .val (.int v131), .val (.ref b132), .val (.ref b147), .val (.int v157), .val (.ref b158), .val (.ref b162), .val (.int r179), .val (.int v202), .unset, .unset] [(.int v202), (.int v157), (.ref b147)])) (fun tgt cont => ?_) ?_
        · refine XS.aload X180.here hx rfl (hb hby at_341) rfl rfl ?_
          refine XS.iload X180.here hx rfl (hb hby at_343) rfl ?_
          refine XS.iload X180.here hx rfl (hb hby at_345) rfl ?_
          exact cont
        -- pc 347: Graph.neighbor
        have f204 := ((((fl147_3.ext E158).ext E162).keep K171 (ninS ne_b147_b158 (ninS ne_b147_b162 nin0))).keep K176 (ninS ne_b147_b158 (ninS ne_b147_b162 nin0)))
        have f205 := (((f169.ext E162).keep K171 (ninS ne_xn147_b158 (ninS ne_xn147_b162 nin0))).keep K176 (ninS ne_xn147_b158 (ninS ne_xn147_b162 nin0)))
        obtain ⟨cq203, kq203, qa203, qb203, qc203⟩ := isOf hZ e180 f181
        obtain ⟨_, _, ⟨T203, L203, k203, n203⟩, -, X203, ⟨Lc203, hQ203, l203, y203, z203⟩, st203⟩ := X180.virtualBack hx (y := (⟨"com/example/cyclecut/cyclecut/graph/Graph", "neighbor", "(II)I"⟩ : MethodName)) (z := (⟨"com/example/cyclecut/cyclecut/graph/Graph", "neighbor", "(II)I"⟩ : MethodName)) hown (mvT hZ (hw _ (List.mem_of_getElem? (i := 95) rfl))) (mvT hZ (hw _ (List.mem_of_getElem? (i := 96) rfl))) (notFace_of_selects (args := #[]) (mvT hZ (hw _ (List.mem_of_getElem? (i := 98) rfl)))) (mvT hZ (hw _ (List.mem_of_getElem? (i := 98) rfl))) (mvT hZ (hw _ (List.mem_of_getElem? (i := 97) rfl))) (by decide) (backOf (W := 0) (rm14 l Z a0 hw [] b147 v157 v202 v1 xf147 xn147 w151 w152 T176.heap n0 zp176 f181 f182 f183 f204 f184 f205 (own_g0 n1 GS B_v157) B_v157.1 B_v157.2.1 (own_g3 n1 GS B_v157) (own_g4 n1 GS B_v157) I1.1 T2 (own_g6 n1 GS B_v157 NB2 (Nat.le_of_ble_eq_true rfl) I1.1 I1.2).1) hZ (hw _ (List.mem_of_getElem? (i := 99) rfl)) (hw _ (List.mem_of_getElem? (i := 23) rfl)) (by decide) (by decide)) qa203 qc203 (g := (mkF m 347 #[.val (.int p1), .val (.int p2), .val (.int p3), .val (.int p4), .val (.int p5), .val (.int v1), .val (.int (2 : Int32)), .val (.int v126), .val (.int v127), .val (.int v128), .val (.int v129), .val (.int v130), .val (.int v131), .val (.ref b132), .val (.ref b147), .val (.int v157), .val (.ref b158), .val (.ref b162), .val (.int r179), .val (.int v202), .unset, .unset] [(.int v202), (.int v157), (.ref b147)])) rfl (by rw [hml]; rfl) (Steps.refl _) (argsL := [(.int v157), (.int v202)]) (rest := []) (lenOf own_pd1 rfl) rfl (by show 2 * 0 + _ ≤ _; exact Nat.le_of_eq rfl) (hb hby at_347) (fun _ _ => ⟨rfl, e180, (by decide : 0 + 1 + 2 + 0 + 0 + 7 + 0 + 0 + 1 + 1 + 0 + 0 + 0 + 0 ≤ _), (by decide : 0 + 4 + 24 + 0 + 0 + 150 + 0 + 0 + 6 + 6 + 0 + 0 + 0 + 0 ≤ _)⟩)
        dsimp only [Pt.U, Pt.locs, Pt.cells, Pt.slots] at X203 l203 y203 z203 st203 hQ203
        subst l203 y203 z203
        obtain ⟨rfl, N203q, e203⟩ := hQ203
        have N203 := Fr.app N180 N203q
        refine own_go (fun tgt cont => st203.trans cont) ?_
        show own_Go p e below s (Q0 n0) room_1.cells room_1.slots (T203.setTop (mkF m 350 #[.val (.int p1), .val (.int p2), .val (.int p3), .val (.int p4), .val (.int p5), .val (.int v1), .val (.int (2 : Int32)), .val (.int v126), .val (.int v127), .val (.int v128), .val (.int v129), .val (.int v130), .val (.int v131), .val (.ref b132), .val (.ref b147), .val (.int v157), .val (.ref b158), .val (.ref b162), .val (.int r179), .val (.int v202), .unset, .unset] [(.int (own_gnei_r v157 v202 v1 w151 w152))]))
        generalize hr206 : (own_gnei_r v157 v202 v1 w151 w152) = r206
        refine own_go (B := T203.setTop (mkF m 364 #[.val (.int p1), .val (.int p2), .val (.int p3), .val (.int p4), .val (.int p5), .val (.int v1), .val (.int (2 : Int32)), .val (.int v126), .val (.int v127), .val (.int v128), .val (.int v129), .val (.int v130), .val (.int v131), .val (.ref b132), .val (.ref b147), .val (.int v157), .val (.ref b158), .val (.ref b162), .val (.int r179), .val (.int v202), .unset, .unset] [(.int v202), (.int v157), (.ref b147)])) (fun tgt cont => ?_) ?_
        · refine XS.aload X203.here hx rfl (hb hby at_350) rfl rfl ?_
          refine XS.iload X203.here hx rfl (hb hby at_352) rfl ?_
          refine own_ldIA X203 hx hZ e203 fa176_0 (j := v202) (own_iL NB2 (Nat.le_of_ble_eq_true rfl) I1.1 I1.2).1 (g := (mkF m 354 #[.val (.int p1), .val (.int p2), .val (.int p3), .val (.int p4), .val (.int p5), .val (.int v1), .val (.int (2 : Int32)), .val (.int v126), .val (.int v127), .val (.int v128), .val (.int v129), .val (.int v130), .val (.int v131), .val (.ref b132), .val (.ref b147), .val (.int v157), .val (.ref b158), .val (.ref b162), .val (.int r179), .val (.int v202), .unset, .unset] [(.int v202), (.ref b158), (.int r206)])) rfl rfl (hb hby at_354) ?_
          refine XS.icmpNo X203.here hx rfl (hb hby at_355) rfl (XT.ii_ne_f (by rw [← hr206]; exact (own_nbE n1 GS B_v157 NB2 (Nat.le_of_ble_eq_true rfl) I1.1 I1.2 (own_fh (Nat.le_of_ble_eq_true rfl))).1)) ?_
          refine XS.aload X203.here hx rfl (hb hby at_358) rfl rfl ?_
          refine XS.iload X203.here hx rfl (hb hby at_360) rfl ?_
          refine XS.iload X203.here hx rfl (hb hby at_362) rfl ?_
          exact cont
        -- pc 364: Graph.incidentEdge
        have f208 := ((((fl147_4.ext E158).ext E162).keep K171 (ninS ne_b147_b158 (ninS ne_b147_b162 nin0))).keep K176 (ninS ne_b147_b158 (ninS ne_b147_b162 nin0)))
        have f209 := (((f170.ext E162).keep K171 (ninS ne_xs147_b158 (ninS ne_xs147_b162 nin0))).keep K176 (ninS ne_xs147_b158 (ninS ne_xs147_b162 nin0)))
        obtain ⟨cq207, kq207, qa207, qb207, qc207⟩ := isOf hZ e203 f181
        obtain ⟨_, _, ⟨T207, L207, k207, n207⟩, -, X207, ⟨Lc207, hQ207, l207, y207, z207⟩, st207⟩ := X203.virtualBack hx (y := (⟨"com/example/cyclecut/cyclecut/graph/Graph", "incidentEdge", "(II)I"⟩ : MethodName)) (z := (⟨"com/example/cyclecut/cyclecut/graph/Graph", "incidentEdge", "(II)I"⟩ : MethodName)) hown (mvT hZ (hw _ (List.mem_of_getElem? (i := 105) rfl))) (mvT hZ (hw _ (List.mem_of_getElem? (i := 106) rfl))) (notFace_of_selects (args := #[]) (mvT hZ (hw _ (List.mem_of_getElem? (i := 108) rfl)))) (mvT hZ (hw _ (List.mem_of_getElem? (i := 108) rfl))) (mvT hZ (hw _ (List.mem_of_getElem? (i := 107) rfl))) (by decide) (backOf (W := 0) (rm16 l Z a0 hw [] b147 v157 v202 v1 xf147 xs147 w151 w153 T176.heap n0 zp176 f181 f182 f183 f208 f184 f209 (own_g0 n1 GS B_v157) B_v157.1 B_v157.2.1 (own_g3 n1 GS B_v157) (own_g4 n1 GS B_v157) I1.1 T2 (own_g6 n1 GS B_v157 NB2 (Nat.le_of_ble_eq_true rfl) I1.1 I1.2).2) hZ (hw _ (List.mem_of_getElem? (i := 109) rfl)) (hw _ (List.mem_of_getElem? (i := 23) rfl)) (by decide) (by decide)) qa207 qc207 (g := (mkF m 364 #[.val (.int p1), .val (.int p2), .val (.int p3), .val (.int p4), .val (.int p5), .val (.int v1), .val (.int (2 : Int32)), .val (.int v126), .val (.int v127), .val (.int v128), .val (.int v129), .val (.int v130), .val (.int v131), .val (.ref b132), .val (.ref b147), .val (.int v157), .val (.ref b158), .val (.ref b162), .val (.int r179), .val (.int v202), .unset, .unset] [(.int v202), (.int v157), (.ref b147)])) rfl (by rw [hml]; rfl) (Steps.refl _) (argsL := [(.int v157), (.int v202)]) (rest := []) (lenOf own_pd1 rfl) rfl (by show 2 * 0 + _ ≤ _; exact Nat.le_of_eq rfl) (hb hby at_364) (fun _ _ => ⟨rfl, e203, (by decide : 0 + 1 + 2 + 0 + 0 + 7 + 0 + 0 + 1 + 1 + 0 + 0 + 0 + 0 + 0 ≤ _), (by decide : 0 + 4 + 24 + 0 + 0 + 150 + 0 + 0 + 6 + 6 + 0 + 0 + 0 + 0 + 0 ≤ _)⟩)
        dsimp only [Pt.U, Pt.locs, Pt.cells, Pt.slots] at X207 l207 y207 z207 st207 hQ207
        subst l207 y207 z207
        obtain ⟨rfl, N207q, e207⟩ := hQ207
        have N207 := Fr.app N203 N207q
        refine own_go (fun tgt cont => st207.trans cont) ?_
        show own_Go p e below s (Q0 n0) room_1.cells room_1.slots (T207.setTop (mkF m 367 #[.val (.int p1), .val (.int p2), .val (.int p3), .val (.int p4), .val (.int p5), .val (.int v1), .val (.int (2 : Int32)), .val (.int v126), .val (.int v127), .val (.int v128), .val (.int v129), .val (.int v130), .val (.int v131), .val (.ref b132), .val (.ref b147), .val (.int v157), .val (.ref b158), .val (.ref b162), .val (.int r179), .val (.int v202), .unset, .unset] [(.int (own_ginc_r v157 v202 v1 w151 w153))]))
        generalize hr210 : (own_ginc_r v157 v202 v1 w151 w153) = r210
        refine own_go (B := T207.setTop (mkF m 377 #[.val (.int p1), .val (.int p2), .val (.int p3), .val (.int p4), .val (.int p5), .val (.int v1), .val (.int (2 : Int32)), .val (.int v126), .val (.int v127), .val (.int v128), .val (.int v129), .val (.int v130), .val (.int v131), .val (.ref b132), .val (.ref b147), .val (.int v157), .val (.ref b158), .val (.ref b162), .val (.int r179), .val (.int v202), .unset, .unset] [])) (fun tgt cont => ?_) ?_
        · refine XS.aload X207.here hx rfl (hb hby at_367) rfl rfl ?_
          refine XS.iload X207.here hx rfl (hb hby at_369) rfl ?_
          refine own_ldIA X207 hx hZ e207 fa176_1 (j := v202) (own_iL NB2 (Nat.le_of_ble_eq_true rfl) I1.1 I1.2).2 (g := (mkF m 371 #[.val (.int p1), .val (.int p2), .val (.int p3), .val (.int p4), .val (.int p5), .val (.int v1), .val (.int (2 : Int32)), .val (.int v126), .val (.int v127), .val (.int v128), .val (.int v129), .val (.int v130), .val (.int v131), .val (.ref b132), .val (.ref b147), .val (.int v157), .val (.ref b158), .val (.ref b162), .val (.int r179), .val (.int v202), .unset, .unset] [(.int v202), (.ref b162), (.int r210)])) rfl rfl (hb hby at_371) ?_
          refine XS.icmpYes X207.here hx rfl (pc0 := 372) (pc' := 377) rfl (hb hby at_372) rfl (XT.ii_eq_t (by rw [← hr210]; exact (own_nbE n1 GS B_v157 NB2 (Nat.le_of_ble_eq_true rfl) I1.1 I1.2 (own_fh (Nat.le_of_ble_eq_true rfl))).2)) (by decide) (by decide) ?_
          exact cont
        exact K186 _ _ (.val (.int v202)) (own_wide X207 (by decide) (by decide)) e207 N207 (Or.inr ⟨_, rfl, rfl⟩)
      ·
        refine own_go (B := T180.setTop (mkF m 377 #[.val (.int p1), .val (.int p2), .val (.int p3), .val (.int p4), .val (.int p5), .val (.int v1), .val (.int (2 : Int32)), .val (.int v126), .val (.int v127), .val (.int v128), .val (.int v129), .val (.int v130), .val (.int v131), .val (.ref b132), .val (.ref b147), .val (.int v157), .val (.ref b158), .val (.ref b162), .val (.int r179), .unset, .unset, .unset] [])) (fun tgt cont => ?_) ?_
        · refine XS.ifYes X180.here hx rfl (pc0 := 325) (pc' := 377) rfl (hb hby at_325) rfl (XT.i0_le_t hc201) (by decide) (by decide) ?_
          exact cont
        exact K186 _ _ .unset (own_wide X180 (by decide) (by decide)) e180 N180 (Or.inl rfl)
    ·
      refine own_go (B := s₁.setTop (mkF m 39 #[.val (.int p1), .val (.int p2), .val (.int p3), .val (.int p4), .val (.int p5), .val (.int v1), .val (.int (3 : Int32)), .val (.int (0 : Int32)), .val (.int (0 : Int32)), .val (.int (0 : Int32)), .val (.int (0 : Int32)), .val (.int (0 : Int32)), .unset, .unset, .unset, .unset, .unset, .unset, .unset, .unset, .unset, .unset] [])) (fun tgt cont => ?_) ?_
      · refine XT.iconstV X0.here hx rfl (0 : Int32) (hb hby at_24) rfl ?_
        refine XS.istore X0.here hx rfl (hb hby at_25) rfl (l' := #[.val (.int p1), .val (.int p2), .val (.int p3), .val (.int p4), .val (.int p5), .val (.int v1), .val (.int (3 : Int32)), .val (.int (0 : Int32)), .unset, .unset, .unset, .unset, .unset, .unset, .unset, .unset, .unset, .unset, .unset, .unset, .unset, .unset]) rfl ?_
        refine XT.iconstV X0.here hx rfl (0 : Int32) (hb hby at_27) rfl ?_
        refine XS.istore X0.here hx rfl (hb hby at_28) rfl (l' := #[.val (.int p1), .val (.int p2), .val (.int p3), .val (.int p4), .val (.int p5), .val (.int v1), .val (.int (3 : Int32)), .val (.int (0 : Int32)), .val (.int (0 : Int32)), .unset, .unset, .unset, .unset, .unset, .unset, .unset, .unset, .unset, .unset, .unset, .unset, .unset]) rfl ?_
        refine XT.iconstV X0.here hx rfl (0 : Int32) (hb hby at_30) rfl ?_
        refine XS.istore X0.here hx rfl (hb hby at_31) rfl (l' := #[.val (.int p1), .val (.int p2), .val (.int p3), .val (.int p4), .val (.int p5), .val (.int v1), .val (.int (3 : Int32)), .val (.int (0 : Int32)), .val (.int (0 : Int32)), .val (.int (0 : Int32)), .unset, .unset, .unset, .unset, .unset, .unset, .unset, .unset, .unset, .unset, .unset, .unset]) rfl ?_
        refine XT.iconstV X0.here hx rfl (0 : Int32) (hb hby at_33) rfl ?_
        refine XS.istore X0.here hx rfl (hb hby at_34) rfl (l' := #[.val (.int p1), .val (.int p2), .val (.int p3), .val (.int p4), .val (.int p5), .val (.int v1), .val (.int (3 : Int32)), .val (.int (0 : Int32)), .val (.int (0 : Int32)), .val (.int (0 : Int32)), .val (.int (0 : Int32)), .unset, .unset, .unset, .unset, .unset, .unset, .unset, .unset, .unset, .unset, .unset]) rfl ?_
        refine XT.iconstV X0.here hx rfl (0 : Int32) (hb hby at_36) rfl ?_
        refine XS.istore X0.here hx rfl (hb hby at_37) rfl (l' := #[.val (.int p1), .val (.int p2), .val (.int p3), .val (.int p4), .val (.int p5), .val (.int v1), .val (.int (3 : Int32)), .val (.int (0 : Int32)), .val (.int (0 : Int32)), .val (.int (0 : Int32)), .val (.int (0 : Int32)), .val (.int (0 : Int32)), .unset, .unset, .unset, .unset, .unset, .unset, .unset, .unset, .unset, .unset]) rfl ?_
        exact cont
      refine own_go (B := s₁.setTop (mkF m 55 #[.val (.int p1), .val (.int p2), .val (.int p3), .val (.int p4), .val (.int p5), .val (.int v1), .val (.int (3 : Int32)), .val (.int (0 : Int32)), .val (.int (0 : Int32)), .val (.int (0 : Int32)), .val (.int (0 : Int32)), .val (.int (0 : Int32)), .val (.int (0 : Int32)), .unset, .unset, .unset, .unset, .unset, .unset, .unset, .unset, .unset] [(.int ((p2 &&& (255 : Int32)) % v1))])) (fun tgt cont => ?_) ?_
      · refine XT.iconstV X0.here hx rfl (0 : Int32) (hb hby at_39) rfl ?_
        refine XS.istore X0.here hx rfl (hb hby at_40) rfl (l' := #[.val (.int p1), .val (.int p2), .val (.int p3), .val (.int p4), .val (.int p5), .val (.int v1), .val (.int (3 : Int32)), .val (.int (0 : Int32)), .val (.int (0 : Int32)), .val (.int (0 : Int32)), .val (.int (0 : Int32)), .val (.int (0 : Int32)), .val (.int (0 : Int32)), .unset, .unset, .unset, .unset, .unset, .unset, .unset, .unset, .unset]) rfl ?_
        refine XS.iload X0.here hx rfl (hb hby at_42) rfl ?_
        refine XS.ifNo X0.here hx rfl (hb hby at_44) rfl (XT.i0_le_f (own_zt m1)) ?_
        refine XS.iloadN X0.here hx rfl (hb hby at_47) rfl ?_
        refine XT.sipushV X0.here hx rfl (255 : Int32) (hb hby at_48) rfl ?_
        refine XS.iand X0.here hx rfl (hb hby at_51) rfl ?_
        refine XS.iload X0.here hx rfl (hb hby at_52) rfl ?_
        refine iremM X0 hx rfl (hb hby at_54) rfl (own_n3c m1) ?_
        exact cont
      generalize hv211 : ((p2 &&& (255 : Int32)) % v1) = v211
      refine own_go (B := s₁.setTop (mkF m 68 #[.val (.int p1), .val (.int p2), .val (.int p3), .val (.int p4), .val (.int p5), .val (.int v1), .val (.int (3 : Int32)), .val (.int v211), .val (.int (0 : Int32)), .val (.int (0 : Int32)), .val (.int (0 : Int32)), .val (.int (0 : Int32)), .val (.int (0 : Int32)), .unset, .unset, .unset, .unset, .unset, .unset, .unset, .unset, .unset] [(.int ((((p2.toUInt32 >>> ((8 : Int32) &&& 31).toUInt32).toInt32) &&& (255 : Int32)) % v1))])) (fun tgt cont => ?_) ?_
      · refine XS.istore X0.here hx rfl (hb hby at_55) rfl (l' := #[.val (.int p1), .val (.int p2), .val (.int p3), .val (.int p4), .val (.int p5), .val (.int v1), .val (.int (3 : Int32)), .val (.int v211), .val (.int (0 : Int32)), .val (.int (0 : Int32)), .val (.int (0 : Int32)), .val (.int (0 : Int32)), .val (.int (0 : Int32)), .unset, .unset, .unset, .unset, .unset, .unset, .unset, .unset, .unset]) rfl ?_
        refine XS.iloadN X0.here hx rfl (hb hby at_57) rfl ?_
        refine XT.bipushV X0.here hx rfl (8 : Int32) (hb hby at_58) rfl ?_
        refine XS.iushr X0.here hx rfl (hb hby at_60) rfl ?_
        refine XT.sipushV X0.here hx rfl (255 : Int32) (hb hby at_61) rfl ?_
        refine XS.iand X0.here hx rfl (hb hby at_64) rfl ?_
        refine XS.iload X0.here hx rfl (hb hby at_65) rfl ?_
        refine iremM X0 hx rfl (hb hby at_67) rfl (own_n3c m1) ?_
        exact cont
      generalize hv212 : ((((p2.toUInt32 >>> ((8 : Int32) &&& 31).toUInt32).toInt32) &&& (255 : Int32)) % v1) = v212
      refine own_go (B := s₁.setTop (mkF m 81 #[.val (.int p1), .val (.int p2), .val (.int p3), .val (.int p4), .val (.int p5), .val (.int v1), .val (.int (3 : Int32)), .val (.int v211), .val (.int v212), .val (.int (0 : Int32)), .val (.int (0 : Int32)), .val (.int (0 : Int32)), .val (.int (0 : Int32)), .unset, .unset, .unset, .unset, .unset, .unset, .unset, .unset, .unset] [(.int ((((p2.toUInt32 >>> ((16 : Int32) &&& 31).toUInt32).toInt32) &&& (255 : Int32)) % v1))])) (fun tgt cont => ?_) ?_
      · refine XS.istore X0.here hx rfl (hb hby at_68) rfl (l' := #[.val (.int p1), .val (.int p2), .val (.int p3), .val (.int p4), .val (.int p5), .val (.int v1), .val (.int (3 : Int32)), .val (.int v211), .val (.int v212), .val (.int (0 : Int32)), .val (.int (0 : Int32)), .val (.int (0 : Int32)), .val (.int (0 : Int32)), .unset, .unset, .unset, .unset, .unset, .unset, .unset, .unset, .unset]) rfl ?_
        refine XS.iloadN X0.here hx rfl (hb hby at_70) rfl ?_
        refine XT.bipushV X0.here hx rfl (16 : Int32) (hb hby at_71) rfl ?_
        refine XS.iushr X0.here hx rfl (hb hby at_73) rfl ?_
        refine XT.sipushV X0.here hx rfl (255 : Int32) (hb hby at_74) rfl ?_
        refine XS.iand X0.here hx rfl (hb hby at_77) rfl ?_
        refine XS.iload X0.here hx rfl (hb hby at_78) rfl ?_
        refine iremM X0 hx rfl (hb hby at_80) rfl (own_n3c m1) ?_
        exact cont
      generalize hv213 : ((((p2.toUInt32 >>> ((16 : Int32) &&& 31).toUInt32).toInt32) &&& (255 : Int32)) % v1) = v213
      refine own_go (B := s₁.setTop (mkF m 94 #[.val (.int p1), .val (.int p2), .val (.int p3), .val (.int p4), .val (.int p5), .val (.int v1), .val (.int (3 : Int32)), .val (.int v211), .val (.int v212), .val (.int v213), .val (.int (0 : Int32)), .val (.int (0 : Int32)), .val (.int (0 : Int32)), .unset, .unset, .unset, .unset, .unset, .unset, .unset, .unset, .unset] [(.int ((((p2.toUInt32 >>> ((24 : Int32) &&& 31).toUInt32).toInt32) &&& (255 : Int32)) % v1))])) (fun tgt cont => ?_) ?_
      · refine XS.istore X0.here hx rfl (hb hby at_81) rfl (l' := #[.val (.int p1), .val (.int p2), .val (.int p3), .val (.int p4), .val (.int p5), .val (.int v1), .val (.int (3 : Int32)), .val (.int v211), .val (.int v212), .val (.int v213), .val (.int (0 : Int32)), .val (.int (0 : Int32)), .val (.int (0 : Int32)), .unset, .unset, .unset, .unset, .unset, .unset, .unset, .unset, .unset]) rfl ?_
        refine XS.iloadN X0.here hx rfl (hb hby at_83) rfl ?_
        refine XT.bipushV X0.here hx rfl (24 : Int32) (hb hby at_84) rfl ?_
        refine XS.iushr X0.here hx rfl (hb hby at_86) rfl ?_
        refine XT.sipushV X0.here hx rfl (255 : Int32) (hb hby at_87) rfl ?_
        refine XS.iand X0.here hx rfl (hb hby at_90) rfl ?_
        refine XS.iload X0.here hx rfl (hb hby at_91) rfl ?_
        refine iremM X0 hx rfl (hb hby at_93) rfl (own_n3c m1) ?_
        exact cont
      generalize hv214 : ((((p2.toUInt32 >>> ((24 : Int32) &&& 31).toUInt32).toInt32) &&& (255 : Int32)) % v1) = v214
      refine own_go (B := s₁.setTop (mkF m 104 #[.val (.int p1), .val (.int p2), .val (.int p3), .val (.int p4), .val (.int p5), .val (.int v1), .val (.int (3 : Int32)), .val (.int v211), .val (.int v212), .val (.int v213), .val (.int v214), .val (.int (0 : Int32)), .val (.int (0 : Int32)), .unset, .unset, .unset, .unset, .unset, .unset, .unset, .unset, .unset] [(.int ((p3 &&& (255 : Int32)) % v1))])) (fun tgt cont => ?_) ?_
      · refine XS.istore X0.here hx rfl (hb hby at_94) rfl (l' := #[.val (.int p1), .val (.int p2), .val (.int p3), .val (.int p4), .val (.int p5), .val (.int v1), .val (.int (3 : Int32)), .val (.int v211), .val (.int v212), .val (.int v213), .val (.int v214), .val (.int (0 : Int32)), .val (.int (0 : Int32)), .unset, .unset, .unset, .unset, .unset, .unset, .unset, .unset, .unset]) rfl ?_
        refine XS.iloadN X0.here hx rfl (hb hby at_96) rfl ?_
        refine XT.sipushV X0.here hx rfl (255 : Int32) (hb hby at_97) rfl ?_
        refine XS.iand X0.here hx rfl (hb hby at_100) rfl ?_
        refine XS.iload X0.here hx rfl (hb hby at_101) rfl ?_
        refine iremM X0 hx rfl (hb hby at_103) rfl (own_n3c m1) ?_
        exact cont
      generalize hv215 : ((p3 &&& (255 : Int32)) % v1) = v215
      refine own_go (B := s₁.setTop (mkF m 117 #[.val (.int p1), .val (.int p2), .val (.int p3), .val (.int p4), .val (.int p5), .val (.int v1), .val (.int (3 : Int32)), .val (.int v211), .val (.int v212), .val (.int v213), .val (.int v214), .val (.int v215), .val (.int (0 : Int32)), .unset, .unset, .unset, .unset, .unset, .unset, .unset, .unset, .unset] [(.int ((((p3.toUInt32 >>> ((8 : Int32) &&& 31).toUInt32).toInt32) &&& (255 : Int32)) % v1))])) (fun tgt cont => ?_) ?_
      · refine XS.istore X0.here hx rfl (hb hby at_104) rfl (l' := #[.val (.int p1), .val (.int p2), .val (.int p3), .val (.int p4), .val (.int p5), .val (.int v1), .val (.int (3 : Int32)), .val (.int v211), .val (.int v212), .val (.int v213), .val (.int v214), .val (.int v215), .val (.int (0 : Int32)), .unset, .unset, .unset, .unset, .unset, .unset, .unset, .unset, .unset]) rfl ?_
        refine XS.iloadN X0.here hx rfl (hb hby at_106) rfl ?_
        refine XT.bipushV X0.here hx rfl (8 : Int32) (hb hby at_107) rfl ?_
        refine XS.iushr X0.here hx rfl (hb hby at_109) rfl ?_
        refine XT.sipushV X0.here hx rfl (255 : Int32) (hb hby at_110) rfl ?_
        refine XS.iand X0.here hx rfl (hb hby at_113) rfl ?_
        refine XS.iload X0.here hx rfl (hb hby at_114) rfl ?_
        refine iremM X0 hx rfl (hb hby at_116) rfl (own_n3c m1) ?_
        exact cont
      generalize hv216 : ((((p3.toUInt32 >>> ((8 : Int32) &&& 31).toUInt32).toInt32) &&& (255 : Int32)) % v1) = v216
      refine own_go (B := s₁.setTop (mkF m 119 #[.val (.int p1), .val (.int p2), .val (.int p3), .val (.int p4), .val (.int p5), .val (.int v1), .val (.int (3 : Int32)), .val (.int v211), .val (.int v212), .val (.int v213), .val (.int v214), .val (.int v215), .val (.int v216), .unset, .unset, .unset, .unset, .unset, .unset, .unset, .unset, .unset] [])) (fun tgt cont => ?_) ?_
      · refine XS.istore X0.here hx rfl (hb hby at_117) rfl (l' := #[.val (.int p1), .val (.int p2), .val (.int p3), .val (.int p4), .val (.int p5), .val (.int v1), .val (.int (3 : Int32)), .val (.int v211), .val (.int v212), .val (.int v213), .val (.int v214), .val (.int v215), .val (.int v216), .unset, .unset, .unset, .unset, .unset, .unset, .unset, .unset, .unset]) rfl ?_
        exact cont
      have B_v211 : own_be v211 v1 := by rw [← hv211]; exact own_b255 m1
      have B_v212 : own_be v212 v1 := by rw [← hv212]; exact own_b255 m1
      have B_v213 : own_be v213 v1 := by rw [← hv213]; exact own_b255 m1
      have B_v214 : own_be v214 v1 := by rw [← hv214]; exact own_b255 m1
      have B_v215 : own_be v215 v1 := by rw [← hv215]; exact own_b255 m1
      have B_v216 : own_be v216 v1 := by rw [← hv216]; exact own_b255 m1
      obtain ⟨T217, h217, X217, e217, E217, A217, D217, -, st217⟩ := newO X0 hx hZ hown (hw _ (List.mem_of_getElem? (i := 0) rfl)) (hw _ (List.mem_of_getElem? (i := 1) rfl)) (hw _ (List.mem_of_getElem? (i := 2) rfl)) e0 (g := (mkF m 119 #[.val (.int p1), .val (.int p2), .val (.int p3), .val (.int p4), .val (.int p5), .val (.int v1), .val (.int (3 : Int32)), .val (.int v211), .val (.int v212), .val (.int v213), .val (.int v214), .val (.int v215), .val (.int v216), .unset, .unset, .unset, .unset, .unset, .unset, .unset, .unset, .unset] [])) rfl (hb hby at_119) (by decide) (by decide)
      obtain ⟨b217, g217⟩ : ∃ z, z = h0.size := ⟨_, rfl⟩
      rw [← g217] at A217 D217 st217
      have g_b217 : n0 ≤ b217 := Nat.le_trans Z0 (Nat.le_of_eq g217.symm)
      have sz_b217 : h0.size ≤ b217 := Nat.le_trans (Keep.refl h0 []).1 (Nat.le_of_eq g217.symm)
      have kk217 : Keep h0 h217 [] := (Keep.refl h0 []).ext E217
      have zp217 : n0 ≤ h217.size := Nat.le_trans Z0 kk217.1
      have F_ends_b217 : Fld Z h217 b217 "com/example/cyclecut/cyclecut/graph/Graph$Builder" "ends" "[I" .null := D217 (Or.inl (hw _ (List.mem_of_getElem? (i := 11) rfl))) (ty := (.array .int)) (by decide)
      have F_vertexCount_b217 : Fld Z h217 b217 "com/example/cyclecut/cyclecut/graph/Graph$Builder" "vertexCount" "I" (.int (0 : Int32)) := D217 (Or.inr (hw _ (List.mem_of_getElem? (i := 13) rfl))) (ty := .int) (by decide)
      have F_degree_b217 : Fld Z h217 b217 "com/example/cyclecut/cyclecut/graph/Graph$Builder" "degree" "[I" .null := D217 (Or.inr (hw _ (List.mem_of_getElem? (i := 15) rfl))) (ty := (.array .int)) (by decide)
      have F_edgeCount_b217 : Fld Z h217 b217 "com/example/cyclecut/cyclecut/graph/Graph$Builder" "edgeCount" "I" (.int (0 : Int32)) := D217 (Or.inl (hw _ (List.mem_of_getElem? (i := 25) rfl))) (ty := .int) (by decide)
      refine own_go (fun tgt cont => st217 tgt cont) ?_
      show own_Go p e below s (Q0 n0) room_1.cells room_1.slots (T217.setTop (mkF m 122 #[.val (.int p1), .val (.int p2), .val (.int p3), .val (.int p4), .val (.int p5), .val (.int v1), .val (.int (3 : Int32)), .val (.int v211), .val (.int v212), .val (.int v213), .val (.int v214), .val (.int v215), .val (.int v216), .unset, .unset, .unset, .unset, .unset, .unset, .unset, .unset, .unset] [(.ref b217)]))
      refine own_go (B := T217.setTop (mkF m 125 #[.val (.int p1), .val (.int p2), .val (.int p3), .val (.int p4), .val (.int p5), .val (.int v1), .val (.int (3 : Int32)), .val (.int v211), .val (.int v212), .val (.int v213), .val (.int v214), .val (.int v215), .val (.int v216), .unset, .unset, .unset, .unset, .unset, .unset, .unset, .unset, .unset] [(.int v1), (.ref b217), (.ref b217)])) (fun tgt cont => ?_) ?_
      · refine XS.dup X217.here hx rfl (hb hby at_122) rfl rfl ?_
        refine XS.iload X217.here hx rfl (hb hby at_123) rfl ?_
        exact cont
      -- pc 125: Graph$Builder.<init>
      obtain ⟨_, _, ⟨T218, L218, k218, n218⟩, -, X218, ⟨Lc218, hQ218, l218, y218, z218⟩, st218⟩ := X217.specialBack hx (y := (⟨"com/example/cyclecut/cyclecut/graph/Graph$Builder", "<init>", "(I)V"⟩ : MethodName)) rfl hown (mvT hZ (hw _ (List.mem_of_getElem? (i := 3) rfl))) (mvT hZ (hw _ (List.mem_of_getElem? (i := 4) rfl))) (mvT hZ (hw _ (List.mem_of_getElem? (i := 5) rfl))) (by decide) (backOf (W := 1) (rm1 l Z a0 hw [] b217 v1 h217 n0 zp217 A217 F_vertexCount_b217 F_degree_b217 F_ends_b217 F_edgeCount_b217 g_b217 n2 n3) hZ (hw _ (List.mem_of_getElem? (i := 5) rfl)) (hw _ (List.mem_of_getElem? (i := 2) rfl)) (by decide) (by decide)) (g := (mkF m 125 #[.val (.int p1), .val (.int p2), .val (.int p3), .val (.int p4), .val (.int p5), .val (.int v1), .val (.int (3 : Int32)), .val (.int v211), .val (.int v212), .val (.int v213), .val (.int v214), .val (.int v215), .val (.int v216), .unset, .unset, .unset, .unset, .unset, .unset, .unset, .unset, .unset] [(.int v1), (.ref b217), (.ref b217)])) rfl (by rw [hml]; rfl) (Steps.refl _) (a := b217) (argsL := [(.int v1)]) (rest := [(.ref b217)]) (lenOf own_pd6 rfl) rfl (by show 2 * 0 + _ ≤ _; exact Nat.le_of_eq rfl) (hb hby at_125) (fun _ _ => ⟨rfl, e217, (by decide : 0 + 1 + 2 ≤ _), (by decide : 0 + 4 + 24 ≤ _)⟩)
      dsimp only [Pt.U, Pt.locs, Pt.cells, Pt.slots] at X218 l218 y218 z218 st218 hQ218
      subst l218 y218 z218
      obtain ⟨b218_0, b218_1, rfl, N218q, K218, ex218_0, fa218_0, fa218_1, fa218_2, fa218_3, gb218_0, ab218_0, eb218_0, gb218_1, ab218_1, eb218_1, ne_b218_0_b218_1⟩ := hQ218
      have N218 := Fr.app N0 N218q
      have g_b218_0 : n0 ≤ b218_0 := Nat.le_trans zp217 gb218_0
      have sz_b218_0 : h0.size ≤ b218_0 := Nat.le_trans kk217.1 gb218_0
      have ne_b217_b218_0 : b217 ≠ b218_0 := Nat.ne_of_lt (Nat.lt_of_lt_of_le A217.lt gb218_0)
      have g_b218_1 : n0 ≤ b218_1 := Nat.le_trans zp217 gb218_1
      have sz_b218_1 : h0.size ≤ b218_1 := Nat.le_trans kk217.1 gb218_1
      have ne_b217_b218_1 : b217 ≠ b218_1 := Nat.ne_of_lt (Nat.lt_of_lt_of_le A217.lt gb218_1)
      have kk218 : Keep h0 T218.heap [] := kk217.trans K218 (allS (Or.inr sz_b217) all0)
      have zp218 : n0 ≤ T218.heap.size := Nat.le_trans Z0 kk218.1
      generalize hw219 : (own_bi_degree v1) = w219 at ab218_0
      generalize hw220 : own_bi_ends = w220 at ab218_1
      refine own_go (fun tgt cont => st218.trans cont) ?_
      show own_Go p e below s (Q0 n0) room_1.cells room_1.slots (T218.setTop (mkF m 128 #[.val (.int p1), .val (.int p2), .val (.int p3), .val (.int p4), .val (.int p5), .val (.int v1), .val (.int (3 : Int32)), .val (.int v211), .val (.int v212), .val (.int v213), .val (.int v214), .val (.int v215), .val (.int v216), .unset, .unset, .unset, .unset, .unset, .unset, .unset, .unset, .unset] [(.ref b217)]))
      have DG0 : own_DG [] w219 v1.toNatClampNeg := by rw [← hw219]; exact own_DG0 _
      have al221 : own_IA Z T218.heap b218_1 [(0 : Int32), (0 : Int32), (0 : Int32), (0 : Int32), (0 : Int32), (0 : Int32), (0 : Int32), (0 : Int32), (0 : Int32), (0 : Int32), (0 : Int32), (0 : Int32), (0 : Int32), (0 : Int32), (0 : Int32), (0 : Int32)] := ab218_1.cong (hw220.symm.trans rfl)
      refine own_go (B := T218.setTop (mkF m 141 #[.val (.int p1), .val (.int p2), .val (.int p3), .val (.int p4), .val (.int p5), .val (.int v1), .val (.int (3 : Int32)), .val (.int v211), .val (.int v212), .val (.int v213), .val (.int v214), .val (.int v215), .val (.int v216), .val (.ref b217), .unset, .unset, .unset, .unset, .unset, .unset, .unset, .unset] [(.int v212), (.int v211), (.ref b217)])) (fun tgt cont => ?_) ?_
      · refine XS.astore X218.here hx rfl (hb hby at_128) rfl rfl (l' := #[.val (.int p1), .val (.int p2), .val (.int p3), .val (.int p4), .val (.int p5), .val (.int v1), .val (.int (3 : Int32)), .val (.int v211), .val (.int v212), .val (.int v213), .val (.int v214), .val (.int v215), .val (.int v216), .val (.ref b217), .unset, .unset, .unset, .unset, .unset, .unset, .unset, .unset]) rfl ?_
        refine XS.iload X218.here hx rfl (hb hby at_130) rfl ?_
        refine XS.ifNo X218.here hx rfl (hb hby at_132) rfl (XT.i0_le_f (by first | decide | exact (show 0 < (3 : Int32) from by decide))) ?_
        refine XS.aload X218.here hx rfl (hb hby at_135) rfl rfl ?_
        refine XS.iload X218.here hx rfl (hb hby at_137) rfl ?_
        refine XS.iload X218.here hx rfl (hb hby at_139) rfl ?_
        exact cont
      -- pc 141: Graph$Builder.addEdge
      obtain ⟨cq222, kq222, qa222, qb222, qc222⟩ := isOf hZ rfl ex218_0
      obtain ⟨_, _, ⟨T222, L222, k222, n222⟩, -, X222, ⟨Lc222, hQ222, l222, y222, z222⟩, st222⟩ := X218.virtualBack hx (y := (⟨"com/example/cyclecut/cyclecut/graph/Graph$Builder", "addEdge", "(II)I"⟩ : MethodName)) (z := (⟨"com/example/cyclecut/cyclecut/graph/Graph$Builder", "addEdge", "(II)I"⟩ : MethodName)) hown (mvT hZ (hw _ (List.mem_of_getElem? (i := 85) rfl))) (mvT hZ (hw _ (List.mem_of_getElem? (i := 86) rfl))) (notFace_of_selects (args := #[]) (mvT hZ (hw _ (List.mem_of_getElem? (i := 88) rfl)))) (mvT hZ (hw _ (List.mem_of_getElem? (i := 88) rfl))) (mvT hZ (hw _ (List.mem_of_getElem? (i := 87) rfl))) (by decide) (backOf (W := 0) (rm12_N l Z a0 hw [] b217 v211 v212 v1 b218_0 b218_1 (0 : Int32) w219 ([(0 : Int32), (0 : Int32), (0 : Int32), (0 : Int32), (0 : Int32), (0 : Int32), (0 : Int32), (0 : Int32), (0 : Int32), (0 : Int32), (0 : Int32), (0 : Int32), (0 : Int32), (0 : Int32), (0 : Int32), (0 : Int32)]) T218.heap n0 zp218 ex218_0 fa218_0 fa218_1 fa218_2 fa218_3 g_b217 ab218_0 g_b218_0 al221 g_b218_1 ne_b218_0_b218_1 B_v211.1 B_v211.2.1 B_v212.1 B_v212.2.1 (own_hg0 rfl) (own_c1_0 rfl) (own_c2_0 rfl) (own_dB DG0 B_v211) (own_dB DG0 B_v212)) hZ (hw _ (List.mem_of_getElem? (i := 89) rfl)) (hw _ (List.mem_of_getElem? (i := 2) rfl)) (by decide) (by decide)) qa222 qc222 (g := (mkF m 141 #[.val (.int p1), .val (.int p2), .val (.int p3), .val (.int p4), .val (.int p5), .val (.int v1), .val (.int (3 : Int32)), .val (.int v211), .val (.int v212), .val (.int v213), .val (.int v214), .val (.int v215), .val (.int v216), .val (.ref b217), .unset, .unset, .unset, .unset, .unset, .unset, .unset, .unset] [(.int v212), (.int v211), (.ref b217)])) rfl (by rw [hml]; rfl) (Steps.refl _) (argsL := [(.int v211), (.int v212)]) (rest := []) (lenOf own_pd1 rfl) rfl (by show 2 * 0 + _ ≤ _; exact Nat.le_of_eq rfl) (hb hby at_141) (fun _ _ => ⟨rfl, rfl, (by decide : 0 + 1 + 2 + 0 ≤ _), (by decide : 0 + 4 + 24 + 0 ≤ _)⟩)
      dsimp only [Pt.U, Pt.locs, Pt.cells, Pt.slots] at X222 l222 y222 z222 st222 hQ222
      subst l222 y222 z222
      obtain ⟨rfl, N222q, K222, ex222_0, fa222_0, fa222_1, fa222_2, fa222_3, fa222_4, fa222_5⟩ := hQ222
      have N222 := Fr.app N218 N222q
      have kk222 : Keep h0 T222.heap [] := kk218.trans K222 (allS (Or.inr sz_b217) (allS (Or.inr sz_b218_0) (allS (Or.inr sz_b218_1) all0)))
      have zp222 : n0 ≤ T222.heap.size := Nat.le_trans Z0 kk222.1
      generalize hw223 : (own_ae_edgeCount (0 : Int32)) = w223 at fa222_3
      generalize hw224 : (own_ae_ds v211 v212 w219) = w224 at fa222_4
      generalize hw225 : (own_ae_es v211 v212 (0 : Int32) [(0 : Int32), (0 : Int32), (0 : Int32), (0 : Int32), (0 : Int32), (0 : Int32), (0 : Int32), (0 : Int32), (0 : Int32), (0 : Int32), (0 : Int32), (0 : Int32), (0 : Int32), (0 : Int32), (0 : Int32), (0 : Int32)]) = w225 at fa222_5
      refine own_go (fun tgt cont => st222.trans cont) ?_
      show own_Go p e below s (Q0 n0) room_1.cells room_1.slots (T222.setTop (mkF m 144 #[.val (.int p1), .val (.int p2), .val (.int p3), .val (.int p4), .val (.int p5), .val (.int v1), .val (.int (3 : Int32)), .val (.int v211), .val (.int v212), .val (.int v213), .val (.int v214), .val (.int v215), .val (.int v216), .val (.ref b217), .unset, .unset, .unset, .unset, .unset, .unset, .unset, .unset] [(.int (0 : Int32))]))
      obtain rfl : w223 = (1 : Int32) := hw223.symm.trans own_ec0
      have DG1 : own_DG [v211, v212] w224 v1.toNatClampNeg := own_DGa DG0 B_v211 B_v212 hw224
      have al226 : own_IA Z T222.heap b218_1 [v211, v212, (0 : Int32), (0 : Int32), (0 : Int32), (0 : Int32), (0 : Int32), (0 : Int32), (0 : Int32), (0 : Int32), (0 : Int32), (0 : Int32), (0 : Int32), (0 : Int32), (0 : Int32), (0 : Int32)] := fa222_5.cong (hw225.symm.trans (own_es0 ..))
      refine own_go (B := T222.setTop (mkF m 157 #[.val (.int p1), .val (.int p2), .val (.int p3), .val (.int p4), .val (.int p5), .val (.int v1), .val (.int (3 : Int32)), .val (.int v211), .val (.int v212), .val (.int v213), .val (.int v214), .val (.int v215), .val (.int v216), .val (.ref b217), .unset, .unset, .unset, .unset, .unset, .unset, .unset, .unset] [(.int v214), (.int v213), (.ref b217)])) (fun tgt cont => ?_) ?_
      · refine XS.pop X222.here hx rfl (hb hby at_144) rfl rfl ?_
        refine XS.iload X222.here hx rfl (hb hby at_145) rfl ?_
        refine XT.iconstV X222.here hx rfl (1 : Int32) (hb hby at_147) rfl ?_
        refine XS.icmpNo X222.here hx rfl (hb hby at_148) rfl (XT.ii_le_f (by first | decide | exact (show (1 : Int32) < (3 : Int32) from by decide))) ?_
        refine XS.aload X222.here hx rfl (hb hby at_151) rfl rfl ?_
        refine XS.iload X222.here hx rfl (hb hby at_153) rfl ?_
        refine XS.iload X222.here hx rfl (hb hby at_155) rfl ?_
        exact cont
      -- pc 157: Graph$Builder.addEdge
      obtain ⟨cq227, kq227, qa227, qb227, qc227⟩ := isOf hZ rfl ex222_0
      obtain ⟨_, _, ⟨T227, L227, k227, n227⟩, -, X227, ⟨Lc227, hQ227, l227, y227, z227⟩, st227⟩ := X222.virtualBack hx (y := (⟨"com/example/cyclecut/cyclecut/graph/Graph$Builder", "addEdge", "(II)I"⟩ : MethodName)) (z := (⟨"com/example/cyclecut/cyclecut/graph/Graph$Builder", "addEdge", "(II)I"⟩ : MethodName)) hown (mvT hZ (hw _ (List.mem_of_getElem? (i := 85) rfl))) (mvT hZ (hw _ (List.mem_of_getElem? (i := 86) rfl))) (notFace_of_selects (args := #[]) (mvT hZ (hw _ (List.mem_of_getElem? (i := 88) rfl)))) (mvT hZ (hw _ (List.mem_of_getElem? (i := 88) rfl))) (mvT hZ (hw _ (List.mem_of_getElem? (i := 87) rfl))) (by decide) (backOf (W := 0) (rm12_N l Z a0 hw [] b217 v213 v214 v1 b218_0 b218_1 (1 : Int32) w224 ([v211, v212, (0 : Int32), (0 : Int32), (0 : Int32), (0 : Int32), (0 : Int32), (0 : Int32), (0 : Int32), (0 : Int32), (0 : Int32), (0 : Int32), (0 : Int32), (0 : Int32), (0 : Int32), (0 : Int32)]) T222.heap n0 zp222 ex222_0 fa222_0 fa222_1 fa222_2 fa222_3 g_b217 fa222_4 g_b218_0 al226 g_b218_1 ne_b218_0_b218_1 B_v213.1 B_v213.2.1 B_v214.1 B_v214.2.1 (own_hg1 rfl) (own_c1_1 rfl) (own_c2_1 rfl) (own_dB DG1 B_v213) (own_dB DG1 B_v214)) hZ (hw _ (List.mem_of_getElem? (i := 89) rfl)) (hw _ (List.mem_of_getElem? (i := 2) rfl)) (by decide) (by decide)) qa227 qc227 (g := (mkF m 157 #[.val (.int p1), .val (.int p2), .val (.int p3), .val (.int p4), .val (.int p5), .val (.int v1), .val (.int (3 : Int32)), .val (.int v211), .val (.int v212), .val (.int v213), .val (.int v214), .val (.int v215), .val (.int v216), .val (.ref b217), .unset, .unset, .unset, .unset, .unset, .unset, .unset, .unset] [(.int v214), (.int v213), (.ref b217)])) rfl (by rw [hml]; rfl) (Steps.refl _) (argsL := [(.int v213), (.int v214)]) (rest := []) (lenOf own_pd1 rfl) rfl (by show 2 * 0 + _ ≤ _; exact Nat.le_of_eq rfl) (hb hby at_157) (fun _ _ => ⟨rfl, rfl, (by decide : 0 + 1 + 2 + 0 + 0 ≤ _), (by decide : 0 + 4 + 24 + 0 + 0 ≤ _)⟩)
      dsimp only [Pt.U, Pt.locs, Pt.cells, Pt.slots] at X227 l227 y227 z227 st227 hQ227
      subst l227 y227 z227
      obtain ⟨rfl, N227q, K227, ex227_0, fa227_0, fa227_1, fa227_2, fa227_3, fa227_4, fa227_5⟩ := hQ227
      have N227 := Fr.app N222 N227q
      have kk227 : Keep h0 T227.heap [] := kk222.trans K227 (allS (Or.inr sz_b217) (allS (Or.inr sz_b218_0) (allS (Or.inr sz_b218_1) all0)))
      have zp227 : n0 ≤ T227.heap.size := Nat.le_trans Z0 kk227.1
      generalize hw228 : (own_ae_edgeCount (1 : Int32)) = w228 at fa227_3
      generalize hw229 : (own_ae_ds v213 v214 w224) = w229 at fa227_4
      generalize hw230 : (own_ae_es v213 v214 (1 : Int32) [v211, v212, (0 : Int32), (0 : Int32), (0 : Int32), (0 : Int32), (0 : Int32), (0 : Int32), (0 : Int32), (0 : Int32), (0 : Int32), (0 : Int32), (0 : Int32), (0 : Int32), (0 : Int32), (0 : Int32)]) = w230 at fa227_5
      refine own_go (fun tgt cont => st227.trans cont) ?_
      show own_Go p e below s (Q0 n0) room_1.cells room_1.slots (T227.setTop (mkF m 160 #[.val (.int p1), .val (.int p2), .val (.int p3), .val (.int p4), .val (.int p5), .val (.int v1), .val (.int (3 : Int32)), .val (.int v211), .val (.int v212), .val (.int v213), .val (.int v214), .val (.int v215), .val (.int v216), .val (.ref b217), .unset, .unset, .unset, .unset, .unset, .unset, .unset, .unset] [(.int (1 : Int32))]))
      obtain rfl : w228 = (2 : Int32) := hw228.symm.trans own_ec1
      have DG2 : own_DG [v211, v212, v213, v214] w229 v1.toNatClampNeg := own_DGa DG1 B_v213 B_v214 hw229
      have al231 : own_IA Z T227.heap b218_1 [v211, v212, v213, v214, (0 : Int32), (0 : Int32), (0 : Int32), (0 : Int32), (0 : Int32), (0 : Int32), (0 : Int32), (0 : Int32), (0 : Int32), (0 : Int32), (0 : Int32), (0 : Int32)] := fa227_5.cong (hw230.symm.trans (own_es1 ..))
      refine own_go (B := T227.setTop (mkF m 173 #[.val (.int p1), .val (.int p2), .val (.int p3), .val (.int p4), .val (.int p5), .val (.int v1), .val (.int (3 : Int32)), .val (.int v211), .val (.int v212), .val (.int v213), .val (.int v214), .val (.int v215), .val (.int v216), .val (.ref b217), .unset, .unset, .unset, .unset, .unset, .unset, .unset, .unset] [(.int v216), (.int v215), (.ref b217)])) (fun tgt cont => ?_) ?_
      · refine XS.pop X227.here hx rfl (hb hby at_160) rfl rfl ?_
        refine XS.iload X227.here hx rfl (hb hby at_161) rfl ?_
        refine XT.iconstV X227.here hx rfl (2 : Int32) (hb hby at_163) rfl ?_
        refine XS.icmpNo X227.here hx rfl (hb hby at_164) rfl (XT.ii_le_f (by first | decide | exact (show (2 : Int32) < (3 : Int32) from by decide))) ?_
        refine XS.aload X227.here hx rfl (hb hby at_167) rfl rfl ?_
        refine XS.iload X227.here hx rfl (hb hby at_169) rfl ?_
        refine XS.iload X227.here hx rfl (hb hby at_171) rfl ?_
        exact cont
      -- pc 173: Graph$Builder.addEdge
      obtain ⟨cq232, kq232, qa232, qb232, qc232⟩ := isOf hZ rfl ex227_0
      obtain ⟨_, _, ⟨T232, L232, k232, n232⟩, -, X232, ⟨Lc232, hQ232, l232, y232, z232⟩, st232⟩ := X227.virtualBack hx (y := (⟨"com/example/cyclecut/cyclecut/graph/Graph$Builder", "addEdge", "(II)I"⟩ : MethodName)) (z := (⟨"com/example/cyclecut/cyclecut/graph/Graph$Builder", "addEdge", "(II)I"⟩ : MethodName)) hown (mvT hZ (hw _ (List.mem_of_getElem? (i := 85) rfl))) (mvT hZ (hw _ (List.mem_of_getElem? (i := 86) rfl))) (notFace_of_selects (args := #[]) (mvT hZ (hw _ (List.mem_of_getElem? (i := 88) rfl)))) (mvT hZ (hw _ (List.mem_of_getElem? (i := 88) rfl))) (mvT hZ (hw _ (List.mem_of_getElem? (i := 87) rfl))) (by decide) (backOf (W := 0) (rm12_N l Z a0 hw [] b217 v215 v216 v1 b218_0 b218_1 (2 : Int32) w229 ([v211, v212, v213, v214, (0 : Int32), (0 : Int32), (0 : Int32), (0 : Int32), (0 : Int32), (0 : Int32), (0 : Int32), (0 : Int32), (0 : Int32), (0 : Int32), (0 : Int32), (0 : Int32)]) T227.heap n0 zp227 ex227_0 fa227_0 fa227_1 fa227_2 fa227_3 g_b217 fa227_4 g_b218_0 al231 g_b218_1 ne_b218_0_b218_1 B_v215.1 B_v215.2.1 B_v216.1 B_v216.2.1 (own_hg2 rfl) (own_c1_2 rfl) (own_c2_2 rfl) (own_dB DG2 B_v215) (own_dB DG2 B_v216)) hZ (hw _ (List.mem_of_getElem? (i := 89) rfl)) (hw _ (List.mem_of_getElem? (i := 2) rfl)) (by decide) (by decide)) qa232 qc232 (g := (mkF m 173 #[.val (.int p1), .val (.int p2), .val (.int p3), .val (.int p4), .val (.int p5), .val (.int v1), .val (.int (3 : Int32)), .val (.int v211), .val (.int v212), .val (.int v213), .val (.int v214), .val (.int v215), .val (.int v216), .val (.ref b217), .unset, .unset, .unset, .unset, .unset, .unset, .unset, .unset] [(.int v216), (.int v215), (.ref b217)])) rfl (by rw [hml]; rfl) (Steps.refl _) (argsL := [(.int v215), (.int v216)]) (rest := []) (lenOf own_pd1 rfl) rfl (by show 2 * 0 + _ ≤ _; exact Nat.le_of_eq rfl) (hb hby at_173) (fun _ _ => ⟨rfl, rfl, (by decide : 0 + 1 + 2 + 0 + 0 + 0 ≤ _), (by decide : 0 + 4 + 24 + 0 + 0 + 0 ≤ _)⟩)
      dsimp only [Pt.U, Pt.locs, Pt.cells, Pt.slots] at X232 l232 y232 z232 st232 hQ232
      subst l232 y232 z232
      obtain ⟨rfl, N232q, K232, ex232_0, fa232_0, fa232_1, fa232_2, fa232_3, fa232_4, fa232_5⟩ := hQ232
      have N232 := Fr.app N227 N232q
      have kk232 : Keep h0 T232.heap [] := kk227.trans K232 (allS (Or.inr sz_b217) (allS (Or.inr sz_b218_0) (allS (Or.inr sz_b218_1) all0)))
      have zp232 : n0 ≤ T232.heap.size := Nat.le_trans Z0 kk232.1
      generalize hw233 : (own_ae_edgeCount (2 : Int32)) = w233 at fa232_3
      generalize hw234 : (own_ae_ds v215 v216 w229) = w234 at fa232_4
      generalize hw235 : (own_ae_es v215 v216 (2 : Int32) [v211, v212, v213, v214, (0 : Int32), (0 : Int32), (0 : Int32), (0 : Int32), (0 : Int32), (0 : Int32), (0 : Int32), (0 : Int32), (0 : Int32), (0 : Int32), (0 : Int32), (0 : Int32)]) = w235 at fa232_5
      refine own_go (fun tgt cont => st232.trans cont) ?_
      show own_Go p e below s (Q0 n0) room_1.cells room_1.slots (T232.setTop (mkF m 176 #[.val (.int p1), .val (.int p2), .val (.int p3), .val (.int p4), .val (.int p5), .val (.int v1), .val (.int (3 : Int32)), .val (.int v211), .val (.int v212), .val (.int v213), .val (.int v214), .val (.int v215), .val (.int v216), .val (.ref b217), .unset, .unset, .unset, .unset, .unset, .unset, .unset, .unset] [(.int (2 : Int32))]))
      obtain rfl : w233 = (3 : Int32) := hw233.symm.trans own_ec2
      have DG3 : own_DG [v211, v212, v213, v214, v215, v216] w234 v1.toNatClampNeg := own_DGa DG2 B_v215 B_v216 hw234
      have al236 : own_IA Z T232.heap b218_1 [v211, v212, v213, v214, v215, v216, (0 : Int32), (0 : Int32), (0 : Int32), (0 : Int32), (0 : Int32), (0 : Int32), (0 : Int32), (0 : Int32), (0 : Int32), (0 : Int32)] := fa232_5.cong (hw235.symm.trans (own_es2 ..))
      refine own_go (B := T232.setTop (mkF m 179 #[.val (.int p1), .val (.int p2), .val (.int p3), .val (.int p4), .val (.int p5), .val (.int v1), .val (.int (3 : Int32)), .val (.int v211), .val (.int v212), .val (.int v213), .val (.int v214), .val (.int v215), .val (.int v216), .val (.ref b217), .unset, .unset, .unset, .unset, .unset, .unset, .unset, .unset] [(.ref b217)])) (fun tgt cont => ?_) ?_
      · refine XS.pop X232.here hx rfl (hb hby at_176) rfl rfl ?_
        refine XS.aload X232.here hx rfl (hb hby at_177) rfl rfl ?_
        exact cont
      -- pc 179: Graph$Builder.build
      have f238 := (((eb218_0.keep K222).keep K227).keep K232)
      obtain ⟨cq237, kq237, qa237, qb237, qc237⟩ := isOf hZ rfl ex232_0
      obtain ⟨_, _, ⟨T237, L237, k237, n237⟩, -, X237, ⟨Lc237, hQ237, l237, y237, z237⟩, st237⟩ := X232.virtualBack hx (y := (⟨"com/example/cyclecut/cyclecut/graph/Graph$Builder", "build", "()Lcom/example/cyclecut/cyclecut/graph/Graph;"⟩ : MethodName)) (z := (⟨"com/example/cyclecut/cyclecut/graph/Graph$Builder", "build", "()Lcom/example/cyclecut/cyclecut/graph/Graph;"⟩ : MethodName)) hown (mvT hZ (hw _ (List.mem_of_getElem? (i := 16) rfl))) (mvT hZ (hw _ (List.mem_of_getElem? (i := 17) rfl))) (notFace_of_selects (args := #[]) (mvT hZ (hw _ (List.mem_of_getElem? (i := 19) rfl)))) (mvT hZ (hw _ (List.mem_of_getElem? (i := 19) rfl))) (mvT hZ (hw _ (List.mem_of_getElem? (i := 18) rfl))) (by decide) (backOf (W := 0) (rm3 l Z a0 hw [] b217 v1 b218_0 b218_1 (3 : Int32) w234 [v211, v212, v213, v214, v215, v216, (0 : Int32), (0 : Int32), (0 : Int32), (0 : Int32), (0 : Int32), (0 : Int32), (0 : Int32), (0 : Int32), (0 : Int32), (0 : Int32)] T232.heap n0 zp232 ex232_0 fa232_0 fa232_1 fa232_2 fa232_3 fa232_4 f238 al236 (own_hd_3 rfl) (by decide) (by decide) n2 n3 (own_hle_3 ..) DG3.1 (own_gb_3 n1 DG3)) hZ (hw _ (List.mem_of_getElem? (i := 20) rfl)) (hw _ (List.mem_of_getElem? (i := 2) rfl)) (by decide) (by decide)) qa237 qc237 (g := (mkF m 179 #[.val (.int p1), .val (.int p2), .val (.int p3), .val (.int p4), .val (.int p5), .val (.int v1), .val (.int (3 : Int32)), .val (.int v211), .val (.int v212), .val (.int v213), .val (.int v214), .val (.int v215), .val (.int v216), .val (.ref b217), .unset, .unset, .unset, .unset, .unset, .unset, .unset, .unset] [(.ref b217)])) rfl (by rw [hml]; rfl) (Steps.refl _) (argsL := []) (rest := []) (lenOf own_pd7 rfl) rfl (by show 2 * 0 + _ ≤ _; exact Nat.le_of_eq rfl) (hb hby at_179) (fun _ _ => ⟨rfl, rfl, (by decide : 0 + 1 + 2 + 0 + 0 + 0 + 7 ≤ _), (by decide : 0 + 4 + 24 + 0 + 0 + 0 + 150 ≤ _)⟩)
      dsimp only [Pt.U, Pt.locs, Pt.cells, Pt.slots] at X237 l237 y237 z237 st237 hQ237
      subst l237 y237 z237
      have f239 := (((eb218_1.keep K222).keep K227).keep K232)
      obtain ⟨b237, xe237, xf237, xn237, xs237, rfl, N237q, K237, gb237, eg237, fl237_0, fl237_1, fl237_2, fl237_3, fl237_4, al237_0, al237_1, al237_2, al237_3⟩ := hQ237
      have N237 := Fr.app N232 N237q
      have kk237 : Keep h0 T237.heap [] := kk232.trans K237 all0
      have zp237 : n0 ≤ T237.heap.size := Nat.le_trans Z0 kk237.1
      generalize hw240 : (own_cof_l ((2 : Int32) * (3 : Int32)) [v211, v212, v213, v214, v215, v216, (0 : Int32), (0 : Int32), (0 : Int32), (0 : Int32), (0 : Int32), (0 : Int32), (0 : Int32), (0 : Int32), (0 : Int32), (0 : Int32)]) = w240 at al237_0
      generalize hw241 : (own_fsL w234 v1.toNatClampNeg (List.replicate (v1.toNatClampNeg + 1) 0)) = w241 at al237_1
      generalize hw242 : (own_l1 (own_cof_l ((2 : Int32) * (3 : Int32)) [v211, v212, v213, v214, v215, v216, (0 : Int32), (0 : Int32), (0 : Int32), (0 : Int32), (0 : Int32), (0 : Int32), (0 : Int32), (0 : Int32), (0 : Int32), (0 : Int32)]) (own_cof_l v1 (own_fsL w234 v1.toNatClampNeg (List.replicate (v1.toNatClampNeg + 1) 0))) (List.replicate (own_cof_l ((2 : Int32) * (3 : Int32)) [v211, v212, v213, v214, v215, v216, (0 : Int32), (0 : Int32), (0 : Int32), (0 : Int32), (0 : Int32), (0 : Int32), (0 : Int32), (0 : Int32), (0 : Int32), (0 : Int32)]).length 0) (own_cof_l ((2 : Int32) * (3 : Int32)) [v211, v212, v213, v214, v215, v216, (0 : Int32), (0 : Int32), (0 : Int32), (0 : Int32), (0 : Int32), (0 : Int32), (0 : Int32), (0 : Int32), (0 : Int32), (0 : Int32)]).length) = w242 at al237_2
      generalize hw243 : (own_l2 (own_cof_l ((2 : Int32) * (3 : Int32)) [v211, v212, v213, v214, v215, v216, (0 : Int32), (0 : Int32), (0 : Int32), (0 : Int32), (0 : Int32), (0 : Int32), (0 : Int32), (0 : Int32), (0 : Int32), (0 : Int32)]) (own_cof_l v1 (own_fsL w234 v1.toNatClampNeg (List.replicate (v1.toNatClampNeg + 1) 0))) (List.replicate (own_cof_l ((2 : Int32) * (3 : Int32)) [v211, v212, v213, v214, v215, v216, (0 : Int32), (0 : Int32), (0 : Int32), (0 : Int32), (0 : Int32), (0 : Int32), (0 : Int32), (0 : Int32), (0 : Int32), (0 : Int32)]).length 0) (own_cof_l ((2 : Int32) * (3 : Int32)) [v211, v212, v213, v214, v215, v216, (0 : Int32), (0 : Int32), (0 : Int32), (0 : Int32), (0 : Int32), (0 : Int32), (0 : Int32), (0 : Int32), (0 : Int32), (0 : Int32)]).length) = w243 at al237_3
      refine own_go (fun tgt cont => st237.trans cont) ?_
      show own_Go p e below s (Q0 n0) room_1.cells room_1.slots (T237.setTop (mkF m 182 #[.val (.int p1), .val (.int p2), .val (.int p3), .val (.int p4), .val (.int p5), .val (.int v1), .val (.int (3 : Int32)), .val (.int v211), .val (.int v212), .val (.int v213), .val (.int v214), .val (.int v215), .val (.int v216), .val (.ref b217), .unset, .unset, .unset, .unset, .unset, .unset, .unset, .unset] [(.ref b237)]))
      refine own_go (B := T237.setTop (mkF m 184 #[.val (.int p1), .val (.int p2), .val (.int p3), .val (.int p4), .val (.int p5), .val (.int v1), .val (.int (3 : Int32)), .val (.int v211), .val (.int v212), .val (.int v213), .val (.int v214), .val (.int v215), .val (.int v216), .val (.ref b217), .val (.ref b237), .unset, .unset, .unset, .unset, .unset, .unset, .unset] [])) (fun tgt cont => ?_) ?_
      · refine XS.astore X237.here hx rfl (hb hby at_182) rfl rfl (l' := #[.val (.int p1), .val (.int p2), .val (.int p3), .val (.int p4), .val (.int p5), .val (.int v1), .val (.int (3 : Int32)), .val (.int v211), .val (.int v212), .val (.int v213), .val (.int v214), .val (.int v215), .val (.int v216), .val (.ref b217), .val (.ref b237), .unset, .unset, .unset, .unset, .unset, .unset, .unset]) rfl ?_
        exact cont
      have le : w240 = [v211, v212, v213, v214, v215, v216] := hw240.symm.trans (own_LE_3 ..)
      have ll : w240.length = 6 := by rw [le]; rfl
      have GS : own_GS [v211, v212, v213, v214, v215, v216] v1.toNatClampNeg w241 w242 w243 := own_GSmk n1 DG3 (Nat.le_of_ble_eq_true rfl) (own_LE_3 ..) hw241 hw242 hw243
      refine own_go (B := T237.setTop (mkF m 186 #[.val (.int p1), .val (.int p2), .val (.int p3), .val (.int p4), .val (.int p5), .val (.int v1), .val (.int (3 : Int32)), .val (.int v211), .val (.int v212), .val (.int v213), .val (.int v214), .val (.int v215), .val (.int v216), .val (.ref b217), .val (.ref b237), .unset, .unset, .unset, .unset, .unset, .unset, .unset] [(.ref b237)])) (fun tgt cont => ?_) ?_
      · refine XS.aload X237.here hx rfl (hb hby at_184) rfl rfl ?_
        exact cont
      -- pc 186: Graph.vertexCount
      obtain ⟨cq244, kq244, qa244, qb244, qc244⟩ := isOf hZ rfl eg237
      obtain ⟨_, _, ⟨T244, L244, k244, n244⟩, -, X244, ⟨Lc244, hQ244, l244, y244, z244⟩, st244⟩ := X237.virtualBack hx (y := (⟨"com/example/cyclecut/cyclecut/graph/Graph", "vertexCount", "()I"⟩ : MethodName)) (z := (⟨"com/example/cyclecut/cyclecut/graph/Graph", "vertexCount", "()I"⟩ : MethodName)) hown (mvT hZ (hw _ (List.mem_of_getElem? (i := 62) rfl))) (mvT hZ (hw _ (List.mem_of_getElem? (i := 63) rfl))) (notFace_of_selects (args := #[]) (mvT hZ (hw _ (List.mem_of_getElem? (i := 65) rfl)))) (mvT hZ (hw _ (List.mem_of_getElem? (i := 65) rfl))) (mvT hZ (hw _ (List.mem_of_getElem? (i := 64) rfl))) (by decide) (backOf (W := 0) (rm7 l Z a0 hw [] b237 v1 T237.heap n0 zp237 eg237 fl237_0) hZ (hw _ (List.mem_of_getElem? (i := 66) rfl)) (hw _ (List.mem_of_getElem? (i := 23) rfl)) (by decide) (by decide)) qa244 qc244 (g := (mkF m 186 #[.val (.int p1), .val (.int p2), .val (.int p3), .val (.int p4), .val (.int p5), .val (.int v1), .val (.int (3 : Int32)), .val (.int v211), .val (.int v212), .val (.int v213), .val (.int v214), .val (.int v215), .val (.int v216), .val (.ref b217), .val (.ref b237), .unset, .unset, .unset, .unset, .unset, .unset, .unset] [(.ref b237)])) rfl (by rw [hml]; rfl) (Steps.refl _) (argsL := []) (rest := []) (lenOf own_pd4 rfl) rfl (by show 2 * 0 + _ ≤ _; exact Nat.le_of_eq rfl) (hb hby at_186) (fun _ _ => ⟨rfl, rfl, (by decide : 0 + 1 + 2 + 0 + 0 + 0 + 7 + 0 ≤ _), (by decide : 0 + 4 + 24 + 0 + 0 + 0 + 150 + 0 ≤ _)⟩)
      dsimp only [Pt.U, Pt.locs, Pt.cells, Pt.slots] at X244 l244 y244 z244 st244 hQ244
      subst l244 y244 z244
      obtain ⟨rfl, N244q, e244⟩ := hQ244
      have N244 := Fr.app N237 N244q
      refine own_go (fun tgt cont => st244.trans cont) ?_
      show own_Go p e below s (Q0 n0) room_1.cells room_1.slots (T244.setTop (mkF m 189 #[.val (.int p1), .val (.int p2), .val (.int p3), .val (.int p4), .val (.int p5), .val (.int v1), .val (.int (3 : Int32)), .val (.int v211), .val (.int v212), .val (.int v213), .val (.int v214), .val (.int v215), .val (.int v216), .val (.ref b217), .val (.ref b237), .unset, .unset, .unset, .unset, .unset, .unset, .unset] [(.int v1)]))
      refine own_go (B := T244.setTop (mkF m 196 #[.val (.int p1), .val (.int p2), .val (.int p3), .val (.int p4), .val (.int p5), .val (.int v1), .val (.int (3 : Int32)), .val (.int v211), .val (.int v212), .val (.int v213), .val (.int v214), .val (.int v215), .val (.int v216), .val (.ref b217), .val (.ref b237), .unset, .unset, .unset, .unset, .unset, .unset, .unset] [(.ref b237)])) (fun tgt cont => ?_) ?_
      · refine XS.iload X244.here hx rfl (hb hby at_189) rfl ?_
        refine XS.icmpNo X244.here hx rfl (hb hby at_191) rfl (XT.ii_ne_f rfl) ?_
        refine XS.aload X244.here hx rfl (hb hby at_194) rfl rfl ?_
        exact cont
      -- pc 196: Graph.edgeCount
      obtain ⟨cq245, kq245, qa245, qb245, qc245⟩ := isOf hZ e244 eg237
      obtain ⟨_, _, ⟨T245, L245, k245, n245⟩, -, X245, ⟨Lc245, hQ245, l245, y245, z245⟩, st245⟩ := X244.virtualBack hx (y := (⟨"com/example/cyclecut/cyclecut/graph/Graph", "edgeCount", "()I"⟩ : MethodName)) (z := (⟨"com/example/cyclecut/cyclecut/graph/Graph", "edgeCount", "()I"⟩ : MethodName)) hown (mvT hZ (hw _ (List.mem_of_getElem? (i := 67) rfl))) (mvT hZ (hw _ (List.mem_of_getElem? (i := 68) rfl))) (notFace_of_selects (args := #[]) (mvT hZ (hw _ (List.mem_of_getElem? (i := 70) rfl)))) (mvT hZ (hw _ (List.mem_of_getElem? (i := 70) rfl))) (mvT hZ (hw _ (List.mem_of_getElem? (i := 69) rfl))) (by decide) (backOf (W := 0) (rm8 l Z a0 hw [] b237 xe237 w240 T237.heap n0 zp237 eg237 fl237_1 al237_0) hZ (hw _ (List.mem_of_getElem? (i := 71) rfl)) (hw _ (List.mem_of_getElem? (i := 23) rfl)) (by decide) (by decide)) qa245 qc245 (g := (mkF m 196 #[.val (.int p1), .val (.int p2), .val (.int p3), .val (.int p4), .val (.int p5), .val (.int v1), .val (.int (3 : Int32)), .val (.int v211), .val (.int v212), .val (.int v213), .val (.int v214), .val (.int v215), .val (.int v216), .val (.ref b217), .val (.ref b237), .unset, .unset, .unset, .unset, .unset, .unset, .unset] [(.ref b237)])) rfl (by rw [hml]; rfl) (Steps.refl _) (argsL := []) (rest := []) (lenOf own_pd4 rfl) rfl (by show 2 * 0 + _ ≤ _; exact Nat.le_of_eq rfl) (hb hby at_196) (fun _ _ => ⟨rfl, e244, (by decide : 0 + 1 + 2 + 0 + 0 + 0 + 7 + 0 + 0 ≤ _), (by decide : 0 + 4 + 24 + 0 + 0 + 0 + 150 + 0 + 0 ≤ _)⟩)
      dsimp only [Pt.U, Pt.locs, Pt.cells, Pt.slots] at X245 l245 y245 z245 st245 hQ245
      subst l245 y245 z245
      obtain ⟨rfl, N245q, e245⟩ := hQ245
      have N245 := Fr.app N244 N245q
      refine own_go (fun tgt cont => st245.trans cont) ?_
      show own_Go p e below s (Q0 n0) room_1.cells room_1.slots (T245.setTop (mkF m 199 #[.val (.int p1), .val (.int p2), .val (.int p3), .val (.int p4), .val (.int p5), .val (.int v1), .val (.int (3 : Int32)), .val (.int v211), .val (.int v212), .val (.int v213), .val (.int v214), .val (.int v215), .val (.int v216), .val (.ref b217), .val (.ref b237), .unset, .unset, .unset, .unset, .unset, .unset, .unset] [(.int (own_gec_r w240))]))
      generalize hr246 : (own_gec_r w240) = r246
      refine own_go (B := T245.setTop (mkF m 221 #[.val (.int p1), .val (.int p2), .val (.int p3), .val (.int p4), .val (.int p5), .val (.int v1), .val (.int (3 : Int32)), .val (.int v211), .val (.int v212), .val (.int v213), .val (.int v214), .val (.int v215), .val (.int v216), .val (.ref b217), .val (.ref b237), .unset, .unset, .unset, .unset, .unset, .unset, .unset] [(.int ((p4 &&& (255 : Int32)) % v1))])) (fun tgt cont => ?_) ?_
      · refine XS.iload X245.here hx rfl (hb hby at_199) rfl ?_
        refine XS.icmpYes X245.here hx rfl (pc0 := 201) (pc' := 206) rfl (hb hby at_201) rfl (XT.ii_eq_t (by rw [← hr246]; exact own_gec_3 ll)) (by decide) (by decide) ?_
        refine XS.iload X245.here hx rfl (hb hby at_206) rfl ?_
        refine XS.ifYes X245.here hx rfl (pc0 := 208) (pc' := 213) rfl (hb hby at_208) rfl (XT.i0_ne_t hc2) (by decide) (by decide) ?_
        refine XS.iloadN X245.here hx rfl (hb hby at_213) rfl ?_
        refine XT.sipushV X245.here hx rfl (255 : Int32) (hb hby at_214) rfl ?_
        refine XS.iand X245.here hx rfl (hb hby at_217) rfl ?_
        refine XS.iload X245.here hx rfl (hb hby at_218) rfl ?_
        refine iremM X245 hx rfl (hb hby at_220) rfl (own_n3c m1) ?_
        exact cont
      generalize hv247 : ((p4 &&& (255 : Int32)) % v1) = v247
      refine own_go (B := T245.setTop (mkF m 223 #[.val (.int p1), .val (.int p2), .val (.int p3), .val (.int p4), .val (.int p5), .val (.int v1), .val (.int (3 : Int32)), .val (.int v211), .val (.int v212), .val (.int v213), .val (.int v214), .val (.int v215), .val (.int v216), .val (.ref b217), .val (.ref b237), .val (.int v247), .unset, .unset, .unset, .unset, .unset, .unset] [])) (fun tgt cont => ?_) ?_
      · refine XS.istore X245.here hx rfl (hb hby at_221) rfl (l' := #[.val (.int p1), .val (.int p2), .val (.int p3), .val (.int p4), .val (.int p5), .val (.int v1), .val (.int (3 : Int32)), .val (.int v211), .val (.int v212), .val (.int v213), .val (.int v214), .val (.int v215), .val (.int v216), .val (.ref b217), .val (.ref b237), .val (.int v247), .unset, .unset, .unset, .unset, .unset, .unset]) rfl ?_
        exact cont
      have B_v247 : own_be v247 v1 := by rw [← hv247]; exact own_b255 m1
      refine own_go (B := T245.setTop (mkF m 225 #[.val (.int p1), .val (.int p2), .val (.int p3), .val (.int p4), .val (.int p5), .val (.int v1), .val (.int (3 : Int32)), .val (.int v211), .val (.int v212), .val (.int v213), .val (.int v214), .val (.int v215), .val (.int v216), .val (.ref b217), .val (.ref b237), .val (.int v247), .unset, .unset, .unset, .unset, .unset, .unset] [(.int (6 : Int32))])) (fun tgt cont => ?_) ?_
      · refine XT.bipushV X245.here hx rfl (6 : Int32) (hb hby at_223) rfl ?_
        exact cont
      have f249 := (ex232_0.keep K237)
      have f250 := (f238.keep K237)
      have f251 := (f239.keep K237)
      obtain ⟨T248, h248, X248, e248, E248, A248, AE248, st248⟩ := own_newIA X245 hx hZ (hw _ (List.mem_of_getElem? (i := 9) rfl)) e245 (g := (mkF m 225 #[.val (.int p1), .val (.int p2), .val (.int p3), .val (.int p4), .val (.int p5), .val (.int v1), .val (.int (3 : Int32)), .val (.int v211), .val (.int v212), .val (.int v213), .val (.int v214), .val (.int v215), .val (.int v216), .val (.ref b217), .val (.ref b237), .val (.int v247), .unset, .unset, .unset, .unset, .unset, .unset] [(.int (6 : Int32))])) rfl (hb hby at_225) rfl (by decide) (cap := 6) (by decide) (by decide) (by decide) (by decide)
      obtain ⟨b248, g248⟩ : ∃ z, z = T237.heap.size := ⟨_, rfl⟩
      rw [← g248] at A248 AE248 st248
      have g_b248 : n0 ≤ b248 := Nat.le_trans zp237 (Nat.le_of_eq g248.symm)
      have sz_b248 : h0.size ≤ b248 := Nat.le_trans kk237.1 (Nat.le_of_eq g248.symm)
      have ne_b217_b248 : b217 ≠ b248 := Nat.ne_of_lt (by rw [g248]; exact f249.lt)
      have ne_b218_0_b248 : b218_0 ≠ b248 := Nat.ne_of_lt (by rw [g248]; exact f250.lt)
      have ne_b218_1_b248 : b218_1 ≠ b248 := Nat.ne_of_lt (by rw [g248]; exact f251.lt)
      have ne_b237_b248 : b237 ≠ b248 := Nat.ne_of_lt (by rw [g248]; exact eg237.lt)
      have ne_xe237_b248 : xe237 ≠ b248 := Nat.ne_of_lt (by rw [g248]; exact al237_0.lt)
      have ne_xf237_b248 : xf237 ≠ b248 := Nat.ne_of_lt (by rw [g248]; exact al237_1.lt)
      have ne_xn237_b248 : xn237 ≠ b248 := Nat.ne_of_lt (by rw [g248]; exact al237_2.lt)
      have ne_xs237_b248 : xs237 ≠ b248 := Nat.ne_of_lt (by rw [g248]; exact al237_3.lt)
      have kk248 : Keep h0 h248 [] := kk237.ext E248
      have zp248 : n0 ≤ h248.size := Nat.le_trans Z0 kk248.1
      have A248v : own_IA Z h248 b248 [(0 : Int32), (0 : Int32), (0 : Int32), (0 : Int32), (0 : Int32), (0 : Int32)] := A248
      refine own_go (fun tgt cont => st248 tgt cont) ?_
      show own_Go p e below s (Q0 n0) room_1.cells room_1.slots (T248.setTop (mkF m 227 #[.val (.int p1), .val (.int p2), .val (.int p3), .val (.int p4), .val (.int p5), .val (.int v1), .val (.int (3 : Int32)), .val (.int v211), .val (.int v212), .val (.int v213), .val (.int v214), .val (.int v215), .val (.int v216), .val (.ref b217), .val (.ref b237), .val (.int v247), .unset, .unset, .unset, .unset, .unset, .unset] [(.ref b248)]))
      refine own_go (B := T248.setTop (mkF m 231 #[.val (.int p1), .val (.int p2), .val (.int p3), .val (.int p4), .val (.int p5), .val (.int v1), .val (.int (3 : Int32)), .val (.int v211), .val (.int v212), .val (.int v213), .val (.int v214), .val (.int v215), .val (.int v216), .val (.ref b217), .val (.ref b237), .val (.int v247), .val (.ref b248), .unset, .unset, .unset, .unset, .unset] [(.int (6 : Int32))])) (fun tgt cont => ?_) ?_
      · refine XS.astore X248.here hx rfl (hb hby at_227) rfl rfl (l' := #[.val (.int p1), .val (.int p2), .val (.int p3), .val (.int p4), .val (.int p5), .val (.int v1), .val (.int (3 : Int32)), .val (.int v211), .val (.int v212), .val (.int v213), .val (.int v214), .val (.int v215), .val (.int v216), .val (.ref b217), .val (.ref b237), .val (.int v247), .val (.ref b248), .unset, .unset, .unset, .unset, .unset]) rfl ?_
        refine XT.bipushV X248.here hx rfl (6 : Int32) (hb hby at_229) rfl ?_
        exact cont
      have f253 := (f249.ext E248)
      have f254 := (f250.ext E248)
      have f255 := (f251.ext E248)
      have f256 := (eg237.ext E248)
      have f257 := (al237_0.ext E248)
      have f258 := (al237_1.ext E248)
      have f259 := (al237_2.ext E248)
      have f260 := (al237_3.ext E248)
      obtain ⟨T252, h252, X252, e252, E252, A252, AE252, st252⟩ := own_newIA X248 hx hZ (hw _ (List.mem_of_getElem? (i := 9) rfl)) e248 (g := (mkF m 231 #[.val (.int p1), .val (.int p2), .val (.int p3), .val (.int p4), .val (.int p5), .val (.int v1), .val (.int (3 : Int32)), .val (.int v211), .val (.int v212), .val (.int v213), .val (.int v214), .val (.int v215), .val (.int v216), .val (.ref b217), .val (.ref b237), .val (.int v247), .val (.ref b248), .unset, .unset, .unset, .unset, .unset] [(.int (6 : Int32))])) rfl (hb hby at_231) rfl (by decide) (cap := 6) (by decide) (by decide) (by decide) (by decide)
      obtain ⟨b252, g252⟩ : ∃ z, z = h248.size := ⟨_, rfl⟩
      rw [← g252] at A252 AE252 st252
      have g_b252 : n0 ≤ b252 := Nat.le_trans zp248 (Nat.le_of_eq g252.symm)
      have sz_b252 : h0.size ≤ b252 := Nat.le_trans kk248.1 (Nat.le_of_eq g252.symm)
      have ne_b217_b252 : b217 ≠ b252 := Nat.ne_of_lt (by rw [g252]; exact f253.lt)
      have ne_b218_0_b252 : b218_0 ≠ b252 := Nat.ne_of_lt (by rw [g252]; exact f254.lt)
      have ne_b218_1_b252 : b218_1 ≠ b252 := Nat.ne_of_lt (by rw [g252]; exact f255.lt)
      have ne_b237_b252 : b237 ≠ b252 := Nat.ne_of_lt (by rw [g252]; exact f256.lt)
      have ne_xe237_b252 : xe237 ≠ b252 := Nat.ne_of_lt (by rw [g252]; exact f257.lt)
      have ne_xf237_b252 : xf237 ≠ b252 := Nat.ne_of_lt (by rw [g252]; exact f258.lt)
      have ne_xn237_b252 : xn237 ≠ b252 := Nat.ne_of_lt (by rw [g252]; exact f259.lt)
      have ne_xs237_b252 : xs237 ≠ b252 := Nat.ne_of_lt (by rw [g252]; exact f260.lt)
      have ne_b248_b252 : b248 ≠ b252 := Nat.ne_of_lt (by rw [g252]; exact A248v.lt)
      have kk252 : Keep h0 h252 [] := kk248.ext E252
      have zp252 : n0 ≤ h252.size := Nat.le_trans Z0 kk252.1
      have A252v : own_IA Z h252 b252 [(0 : Int32), (0 : Int32), (0 : Int32), (0 : Int32), (0 : Int32), (0 : Int32)] := A252
      refine own_go (fun tgt cont => st252 tgt cont) ?_
      show own_Go p e below s (Q0 n0) room_1.cells room_1.slots (T252.setTop (mkF m 233 #[.val (.int p1), .val (.int p2), .val (.int p3), .val (.int p4), .val (.int p5), .val (.int v1), .val (.int (3 : Int32)), .val (.int v211), .val (.int v212), .val (.int v213), .val (.int v214), .val (.int v215), .val (.int v216), .val (.ref b217), .val (.ref b237), .val (.int v247), .val (.ref b248), .unset, .unset, .unset, .unset, .unset] [(.ref b252)]))
      refine own_go (B := T252.setTop (mkF m 235 #[.val (.int p1), .val (.int p2), .val (.int p3), .val (.int p4), .val (.int p5), .val (.int v1), .val (.int (3 : Int32)), .val (.int v211), .val (.int v212), .val (.int v213), .val (.int v214), .val (.int v215), .val (.int v216), .val (.ref b217), .val (.ref b237), .val (.int v247), .val (.ref b248), .val (.ref b252), .unset, .unset, .unset, .unset] [])) (fun tgt cont => ?_) ?_
      · refine XS.astore X252.here hx rfl (hb hby at_233) rfl rfl (l' := #[.val (.int p1), .val (.int p2), .val (.int p3), .val (.int p4), .val (.int p5), .val (.int v1), .val (.int (3 : Int32)), .val (.int v211), .val (.int v212), .val (.int v213), .val (.int v214), .val (.int v215), .val (.int v216), .val (.ref b217), .val (.ref b237), .val (.int v247), .val (.ref b248), .val (.ref b252), .unset, .unset, .unset, .unset]) rfl ?_
        exact cont
      have NB0 : own_NB [] (own_f [v211, v212, v213, v214, v215, v216]) own_h v247 (0 : Int32) [(0 : Int32), (0 : Int32), (0 : Int32), (0 : Int32), (0 : Int32), (0 : Int32)] [(0 : Int32), (0 : Int32), (0 : Int32), (0 : Int32), (0 : Int32), (0 : Int32)] := own_NB0 _ _ _ rfl rfl
      refine own_go (B := T252.setTop (mkF m 254 #[.val (.int p1), .val (.int p2), .val (.int p3), .val (.int p4), .val (.int p5), .val (.int v1), .val (.int (3 : Int32)), .val (.int v211), .val (.int v212), .val (.int v213), .val (.int v214), .val (.int v215), .val (.int v216), .val (.ref b217), .val (.ref b237), .val (.int v247), .val (.ref b248), .val (.ref b252), .val (.int (0 : Int32)), .unset, .unset, .unset] [(.int v211), (.int (0 : Int32)), (.int v247), (.int (0 : Int32)), (.ref b252), (.ref b248)])) (fun tgt cont => ?_) ?_
      · refine XT.iconstV X252.here hx rfl (0 : Int32) (hb hby at_235) rfl ?_
        refine XS.istore X252.here hx rfl (hb hby at_236) rfl (l' := #[.val (.int p1), .val (.int p2), .val (.int p3), .val (.int p4), .val (.int p5), .val (.int v1), .val (.int (3 : Int32)), .val (.int v211), .val (.int v212), .val (.int v213), .val (.int v214), .val (.int v215), .val (.int v216), .val (.ref b217), .val (.ref b237), .val (.int v247), .val (.ref b248), .val (.ref b252), .val (.int (0 : Int32)), .unset, .unset, .unset]) rfl ?_
        refine XS.iload X252.here hx rfl (hb hby at_238) rfl ?_
        refine XS.ifNo X252.here hx rfl (hb hby at_240) rfl (XT.i0_le_f (by first | decide | exact (show 0 < (3 : Int32) from by decide))) ?_
        refine XS.aload X252.here hx rfl (hb hby at_243) rfl rfl ?_
        refine XS.aload X252.here hx rfl (hb hby at_245) rfl rfl ?_
        refine XS.iload X252.here hx rfl (hb hby at_247) rfl ?_
        refine XS.iload X252.here hx rfl (hb hby at_249) rfl ?_
        refine XT.iconstV X252.here hx rfl (0 : Int32) (hb hby at_251) rfl ?_
        refine XS.iload X252.here hx rfl (hb hby at_252) rfl ?_
        exact cont
      refine own_go (B := T252.setTop (mkF m 256 #[.val (.int p1), .val (.int p2), .val (.int p3), .val (.int p4), .val (.int p5), .val (.int v1), .val (.int (3 : Int32)), .val (.int v211), .val (.int v212), .val (.int v213), .val (.int v214), .val (.int v215), .val (.int v216), .val (.ref b217), .val (.ref b237), .val (.int v247), .val (.ref b248), .val (.ref b252), .val (.int (0 : Int32)), .unset, .unset, .unset] [(.int v212), (.int v211), (.int (0 : Int32)), (.int v247), (.int (0 : Int32)), (.ref b252), (.ref b248)])) (fun tgt cont => ?_) ?_
      · refine XS.iload X252.here hx rfl (hb hby at_254) rfl ?_
        exact cont
      have IC0 := own_icB NB0 (Nat.le_of_ble_eq_true rfl)
      -- pc 256: GraphBuilderBuildPinLaw.inc
      have f262 := (A248v.ext E252)
      obtain ⟨_, _, ⟨T261, L261, k261, n261⟩, -, X261, ⟨Lc261, hQ261, l261, y261, z261⟩, st261⟩ := Jvm.LawKit.callS X252 hx (y := (⟨"com/example/cyclecut/cyclecut/graph/GraphBuilderBuildPinLaw", "inc", "([I[IIIIII)I"⟩ : MethodName)) hown (mvT hZ (hw _ (List.mem_of_getElem? (i := 91) rfl))) (mvT hZ (hw _ (List.mem_of_getElem? (i := 92) rfl))) (mvT hZ (hw _ (List.mem_of_getElem? (i := 93) rfl))) (mvT hZ (hw _ (List.mem_of_getElem? (i := 94) rfl))) (by decide) (backOf (W := 0) (rm13 l Z a0 hw [] b248 b252 (0 : Int32) v247 (0 : Int32) v211 v212 ([(0 : Int32), (0 : Int32), (0 : Int32), (0 : Int32), (0 : Int32), (0 : Int32)]) ([(0 : Int32), (0 : Int32), (0 : Int32), (0 : Int32), (0 : Int32), (0 : Int32)]) h252 n0 zp252 f262 g_b248 A252v g_b252 ne_b248_b252 IC0.1 IC0.2.1 IC0.2.2.1 IC0.2.2.2) hZ (hw _ (List.mem_of_getElem? (i := 94) rfl)) (hw _ (List.mem_of_getElem? (i := 93) rfl)) (by decide) (by decide)) (g := (mkF m 256 #[.val (.int p1), .val (.int p2), .val (.int p3), .val (.int p4), .val (.int p5), .val (.int v1), .val (.int (3 : Int32)), .val (.int v211), .val (.int v212), .val (.int v213), .val (.int v214), .val (.int v215), .val (.int v216), .val (.ref b217), .val (.ref b237), .val (.int v247), .val (.ref b248), .val (.ref b252), .val (.int (0 : Int32)), .unset, .unset, .unset] [(.int v212), (.int v211), (.int (0 : Int32)), (.int v247), (.int (0 : Int32)), (.ref b252), (.ref b248)])) rfl (by rw [hml]; rfl) (argsL := [(.ref b248), (.ref b252), (.int (0 : Int32)), (.int v247), (.int (0 : Int32)), (.int v211), (.int v212)]) (rest := []) (lenOf own_pd8 rfl) rfl (by show 2 * 0 + _ ≤ _; exact Nat.le_of_eq rfl) (hb hby at_256) (fun _ _ => ⟨rfl, e252, (by decide : 0 + 1 + 2 + 0 + 0 + 0 + 7 + 0 + 0 + 1 + 1 + 0 ≤ _), (by decide : 0 + 4 + 24 + 0 + 0 + 0 + 150 + 0 + 0 + 6 + 6 + 0 ≤ _)⟩)
      dsimp only [Pt.U, Pt.locs, Pt.cells, Pt.slots] at X261 l261 y261 z261 st261 hQ261
      subst l261 y261 z261
      obtain ⟨rfl, N261q, K261, fa261_0, fa261_1⟩ := hQ261
      have N261 := Fr.app N245 N261q
      have kk261 : Keep h0 T261.heap [] := kk252.trans K261 (allS (Or.inr sz_b248) (allS (Or.inr sz_b252) all0))
      have zp261 : n0 ≤ T261.heap.size := Nat.le_trans Z0 kk261.1
      generalize hw263 : (own_inc_ns (0 : Int32) v247 v211 v212 [(0 : Int32), (0 : Int32), (0 : Int32), (0 : Int32), (0 : Int32), (0 : Int32)]) = w263 at fa261_0
      generalize hw264 : (own_inc_ms (0 : Int32) v247 (0 : Int32) v211 v212 [(0 : Int32), (0 : Int32), (0 : Int32), (0 : Int32), (0 : Int32), (0 : Int32)]) = w264 at fa261_1
      refine own_go (fun tgt cont => st261 tgt cont) ?_
      show own_Go p e below s (Q0 n0) room_1.cells room_1.slots (T261.setTop (mkF m 259 #[.val (.int p1), .val (.int p2), .val (.int p3), .val (.int p4), .val (.int p5), .val (.int v1), .val (.int (3 : Int32)), .val (.int v211), .val (.int v212), .val (.int v213), .val (.int v214), .val (.int v215), .val (.int v216), .val (.ref b217), .val (.ref b237), .val (.int v247), .val (.ref b248), .val (.ref b252), .val (.int (0 : Int32)), .unset, .unset, .unset] [(.int (own_inc_r (0 : Int32) v247 v211 v212))]))
      generalize hr265 : (own_inc_r (0 : Int32) v247 v211 v212) = r265
      have NB1 : own_NB [v211, v212] (own_f [v211, v212, v213, v214, v215, v216]) own_h v247 r265 w263 w264 := own_inE NB0 B_v211.1 B_v212.1 B_v247.1 0 1 rfl rfl (by decide) rfl rfl rfl rfl hr265 hw263 hw264
      refine own_go (B := T261.setTop (mkF m 278 #[.val (.int p1), .val (.int p2), .val (.int p3), .val (.int p4), .val (.int p5), .val (.int v1), .val (.int (3 : Int32)), .val (.int v211), .val (.int v212), .val (.int v213), .val (.int v214), .val (.int v215), .val (.int v216), .val (.ref b217), .val (.ref b237), .val (.int v247), .val (.ref b248), .val (.ref b252), .val (.int r265), .unset, .unset, .unset] [(.int v213), (.int (1 : Int32)), (.int v247), (.int r265), (.ref b252), (.ref b248)])) (fun tgt cont => ?_) ?_
      · refine XS.istore X261.here hx rfl (hb hby at_259) rfl (l' := #[.val (.int p1), .val (.int p2), .val (.int p3), .val (.int p4), .val (.int p5), .val (.int v1), .val (.int (3 : Int32)), .val (.int v211), .val (.int v212), .val (.int v213), .val (.int v214), .val (.int v215), .val (.int v216), .val (.ref b217), .val (.ref b237), .val (.int v247), .val (.ref b248), .val (.ref b252), .val (.int r265), .unset, .unset, .unset]) rfl ?_
        refine XS.iload X261.here hx rfl (hb hby at_261) rfl ?_
        refine XT.iconstV X261.here hx rfl (1 : Int32) (hb hby at_263) rfl ?_
        refine XS.icmpNo X261.here hx rfl (hb hby at_264) rfl (XT.ii_le_f (by first | decide | exact (show (1 : Int32) < (3 : Int32) from by decide))) ?_
        refine XS.aload X261.here hx rfl (hb hby at_267) rfl rfl ?_
        refine XS.aload X261.here hx rfl (hb hby at_269) rfl rfl ?_
        refine XS.iload X261.here hx rfl (hb hby at_271) rfl ?_
        refine XS.iload X261.here hx rfl (hb hby at_273) rfl ?_
        refine XT.iconstV X261.here hx rfl (1 : Int32) (hb hby at_275) rfl ?_
        refine XS.iload X261.here hx rfl (hb hby at_276) rfl ?_
        exact cont
      refine own_go (B := T261.setTop (mkF m 280 #[.val (.int p1), .val (.int p2), .val (.int p3), .val (.int p4), .val (.int p5), .val (.int v1), .val (.int (3 : Int32)), .val (.int v211), .val (.int v212), .val (.int v213), .val (.int v214), .val (.int v215), .val (.int v216), .val (.ref b217), .val (.ref b237), .val (.int v247), .val (.ref b248), .val (.ref b252), .val (.int r265), .unset, .unset, .unset] [(.int v214), (.int v213), (.int (1 : Int32)), (.int v247), (.int r265), (.ref b252), (.ref b248)])) (fun tgt cont => ?_) ?_
      · refine XS.iload X261.here hx rfl (hb hby at_278) rfl ?_
        exact cont
      have IC1 := own_icB NB1 (Nat.le_of_ble_eq_true rfl)
      -- pc 280: GraphBuilderBuildPinLaw.inc
      obtain ⟨_, _, ⟨T266, L266, k266, n266⟩, -, X266, ⟨Lc266, hQ266, l266, y266, z266⟩, st266⟩ := Jvm.LawKit.callS X261 hx (y := (⟨"com/example/cyclecut/cyclecut/graph/GraphBuilderBuildPinLaw", "inc", "([I[IIIIII)I"⟩ : MethodName)) hown (mvT hZ (hw _ (List.mem_of_getElem? (i := 91) rfl))) (mvT hZ (hw _ (List.mem_of_getElem? (i := 92) rfl))) (mvT hZ (hw _ (List.mem_of_getElem? (i := 93) rfl))) (mvT hZ (hw _ (List.mem_of_getElem? (i := 94) rfl))) (by decide) (backOf (W := 0) (rm13 l Z a0 hw [] b248 b252 r265 v247 (1 : Int32) v213 v214 w263 w264 T261.heap n0 zp261 fa261_0 g_b248 fa261_1 g_b252 ne_b248_b252 IC1.1 IC1.2.1 IC1.2.2.1 IC1.2.2.2) hZ (hw _ (List.mem_of_getElem? (i := 94) rfl)) (hw _ (List.mem_of_getElem? (i := 93) rfl)) (by decide) (by decide)) (g := (mkF m 280 #[.val (.int p1), .val (.int p2), .val (.int p3), .val (.int p4), .val (.int p5), .val (.int v1), .val (.int (3 : Int32)), .val (.int v211), .val (.int v212), .val (.int v213), .val (.int v214), .val (.int v215), .val (.int v216), .val (.ref b217), .val (.ref b237), .val (.int v247), .val (.ref b248), .val (.ref b252), .val (.int r265), .unset, .unset, .unset] [(.int v214), (.int v213), (.int (1 : Int32)), (.int v247), (.int r265), (.ref b252), (.ref b248)])) rfl (by rw [hml]; rfl) (argsL := [(.ref b248), (.ref b252), (.int r265), (.int v247), (.int (1 : Int32)), (.int v213), (.int v214)]) (rest := []) (lenOf own_pd8 rfl) rfl (by show 2 * 0 + _ ≤ _; exact Nat.le_of_eq rfl) (hb hby at_280) (fun _ _ => ⟨rfl, rfl, (by decide : 0 + 1 + 2 + 0 + 0 + 0 + 7 + 0 + 0 + 1 + 1 + 0 + 0 ≤ _), (by decide : 0 + 4 + 24 + 0 + 0 + 0 + 150 + 0 + 0 + 6 + 6 + 0 + 0 ≤ _)⟩)
      dsimp only [Pt.U, Pt.locs, Pt.cells, Pt.slots] at X266 l266 y266 z266 st266 hQ266
      subst l266 y266 z266
      obtain ⟨rfl, N266q, K266, fa266_0, fa266_1⟩ := hQ266
      have N266 := Fr.app N261 N266q
      have kk266 : Keep h0 T266.heap [] := kk261.trans K266 (allS (Or.inr sz_b248) (allS (Or.inr sz_b252) all0))
      have zp266 : n0 ≤ T266.heap.size := Nat.le_trans Z0 kk266.1
      generalize hw267 : (own_inc_ns r265 v247 v213 v214 w263) = w267 at fa266_0
      generalize hw268 : (own_inc_ms r265 v247 (1 : Int32) v213 v214 w264) = w268 at fa266_1
      refine own_go (fun tgt cont => st266 tgt cont) ?_
      show own_Go p e below s (Q0 n0) room_1.cells room_1.slots (T266.setTop (mkF m 283 #[.val (.int p1), .val (.int p2), .val (.int p3), .val (.int p4), .val (.int p5), .val (.int v1), .val (.int (3 : Int32)), .val (.int v211), .val (.int v212), .val (.int v213), .val (.int v214), .val (.int v215), .val (.int v216), .val (.ref b217), .val (.ref b237), .val (.int v247), .val (.ref b248), .val (.ref b252), .val (.int r265), .unset, .unset, .unset] [(.int (own_inc_r r265 v247 v213 v214))]))
      generalize hr269 : (own_inc_r r265 v247 v213 v214) = r269
      have NB2 : own_NB [v211, v212, v213, v214] (own_f [v211, v212, v213, v214, v215, v216]) own_h v247 r269 w267 w268 := own_inE NB1 B_v213.1 B_v214.1 B_v247.1 2 3 rfl rfl (by decide) rfl rfl rfl rfl hr269 hw267 hw268
      refine own_go (B := T266.setTop (mkF m 302 #[.val (.int p1), .val (.int p2), .val (.int p3), .val (.int p4), .val (.int p5), .val (.int v1), .val (.int (3 : Int32)), .val (.int v211), .val (.int v212), .val (.int v213), .val (.int v214), .val (.int v215), .val (.int v216), .val (.ref b217), .val (.ref b237), .val (.int v247), .val (.ref b248), .val (.ref b252), .val (.int r269), .unset, .unset, .unset] [(.int v215), (.int (2 : Int32)), (.int v247), (.int r269), (.ref b252), (.ref b248)])) (fun tgt cont => ?_) ?_
      · refine XS.istore X266.here hx rfl (hb hby at_283) rfl (l' := #[.val (.int p1), .val (.int p2), .val (.int p3), .val (.int p4), .val (.int p5), .val (.int v1), .val (.int (3 : Int32)), .val (.int v211), .val (.int v212), .val (.int v213), .val (.int v214), .val (.int v215), .val (.int v216), .val (.ref b217), .val (.ref b237), .val (.int v247), .val (.ref b248), .val (.ref b252), .val (.int r269), .unset, .unset, .unset]) rfl ?_
        refine XS.iload X266.here hx rfl (hb hby at_285) rfl ?_
        refine XT.iconstV X266.here hx rfl (2 : Int32) (hb hby at_287) rfl ?_
        refine XS.icmpNo X266.here hx rfl (hb hby at_288) rfl (XT.ii_le_f (by first | decide | exact (show (2 : Int32) < (3 : Int32) from by decide))) ?_
        refine XS.aload X266.here hx rfl (hb hby at_291) rfl rfl ?_
        refine XS.aload X266.here hx rfl (hb hby at_293) rfl rfl ?_
        refine XS.iload X266.here hx rfl (hb hby at_295) rfl ?_
        refine XS.iload X266.here hx rfl (hb hby at_297) rfl ?_
        refine XT.iconstV X266.here hx rfl (2 : Int32) (hb hby at_299) rfl ?_
        refine XS.iload X266.here hx rfl (hb hby at_300) rfl ?_
        exact cont
      refine own_go (B := T266.setTop (mkF m 304 #[.val (.int p1), .val (.int p2), .val (.int p3), .val (.int p4), .val (.int p5), .val (.int v1), .val (.int (3 : Int32)), .val (.int v211), .val (.int v212), .val (.int v213), .val (.int v214), .val (.int v215), .val (.int v216), .val (.ref b217), .val (.ref b237), .val (.int v247), .val (.ref b248), .val (.ref b252), .val (.int r269), .unset, .unset, .unset] [(.int v216), (.int v215), (.int (2 : Int32)), (.int v247), (.int r269), (.ref b252), (.ref b248)])) (fun tgt cont => ?_) ?_
      · refine XS.iload X266.here hx rfl (hb hby at_302) rfl ?_
        exact cont
      have IC2 := own_icB NB2 (Nat.le_of_ble_eq_true rfl)
      -- pc 304: GraphBuilderBuildPinLaw.inc
      obtain ⟨_, _, ⟨T270, L270, k270, n270⟩, -, X270, ⟨Lc270, hQ270, l270, y270, z270⟩, st270⟩ := Jvm.LawKit.callS X266 hx (y := (⟨"com/example/cyclecut/cyclecut/graph/GraphBuilderBuildPinLaw", "inc", "([I[IIIIII)I"⟩ : MethodName)) hown (mvT hZ (hw _ (List.mem_of_getElem? (i := 91) rfl))) (mvT hZ (hw _ (List.mem_of_getElem? (i := 92) rfl))) (mvT hZ (hw _ (List.mem_of_getElem? (i := 93) rfl))) (mvT hZ (hw _ (List.mem_of_getElem? (i := 94) rfl))) (by decide) (backOf (W := 0) (rm13 l Z a0 hw [] b248 b252 r269 v247 (2 : Int32) v215 v216 w267 w268 T266.heap n0 zp266 fa266_0 g_b248 fa266_1 g_b252 ne_b248_b252 IC2.1 IC2.2.1 IC2.2.2.1 IC2.2.2.2) hZ (hw _ (List.mem_of_getElem? (i := 94) rfl)) (hw _ (List.mem_of_getElem? (i := 93) rfl)) (by decide) (by decide)) (g := (mkF m 304 #[.val (.int p1), .val (.int p2), .val (.int p3), .val (.int p4), .val (.int p5), .val (.int v1), .val (.int (3 : Int32)), .val (.int v211), .val (.int v212), .val (.int v213), .val (.int v214), .val (.int v215), .val (.int v216), .val (.ref b217), .val (.ref b237), .val (.int v247), .val (.ref b248), .val (.ref b252), .val (.int r269), .unset, .unset, .unset] [(.int v216), (.int v215), (.int (2 : Int32)), (.int v247), (.int r269), (.ref b252), (.ref b248)])) rfl (by rw [hml]; rfl) (argsL := [(.ref b248), (.ref b252), (.int r269), (.int v247), (.int (2 : Int32)), (.int v215), (.int v216)]) (rest := []) (lenOf own_pd8 rfl) rfl (by show 2 * 0 + _ ≤ _; exact Nat.le_of_eq rfl) (hb hby at_304) (fun _ _ => ⟨rfl, rfl, (by decide : 0 + 1 + 2 + 0 + 0 + 0 + 7 + 0 + 0 + 1 + 1 + 0 + 0 + 0 ≤ _), (by decide : 0 + 4 + 24 + 0 + 0 + 0 + 150 + 0 + 0 + 6 + 6 + 0 + 0 + 0 ≤ _)⟩)
      dsimp only [Pt.U, Pt.locs, Pt.cells, Pt.slots] at X270 l270 y270 z270 st270 hQ270
      subst l270 y270 z270
      obtain ⟨rfl, N270q, K270, fa270_0, fa270_1⟩ := hQ270
      have N270 := Fr.app N266 N270q
      have kk270 : Keep h0 T270.heap [] := kk266.trans K270 (allS (Or.inr sz_b248) (allS (Or.inr sz_b252) all0))
      have zp270 : n0 ≤ T270.heap.size := Nat.le_trans Z0 kk270.1
      generalize hw271 : (own_inc_ns r269 v247 v215 v216 w267) = w271 at fa270_0
      generalize hw272 : (own_inc_ms r269 v247 (2 : Int32) v215 v216 w268) = w272 at fa270_1
      refine own_go (fun tgt cont => st270 tgt cont) ?_
      show own_Go p e below s (Q0 n0) room_1.cells room_1.slots (T270.setTop (mkF m 307 #[.val (.int p1), .val (.int p2), .val (.int p3), .val (.int p4), .val (.int p5), .val (.int v1), .val (.int (3 : Int32)), .val (.int v211), .val (.int v212), .val (.int v213), .val (.int v214), .val (.int v215), .val (.int v216), .val (.ref b217), .val (.ref b237), .val (.int v247), .val (.ref b248), .val (.ref b252), .val (.int r269), .unset, .unset, .unset] [(.int (own_inc_r r269 v247 v215 v216))]))
      generalize hr273 : (own_inc_r r269 v247 v215 v216) = r273
      have NB3 : own_NB [v211, v212, v213, v214, v215, v216] (own_f [v211, v212, v213, v214, v215, v216]) own_h v247 r273 w271 w272 := own_inE NB2 B_v215.1 B_v216.1 B_v247.1 4 5 rfl rfl (by decide) rfl rfl rfl rfl hr273 hw271 hw272
      refine own_go (B := T270.setTop (mkF m 313 #[.val (.int p1), .val (.int p2), .val (.int p3), .val (.int p4), .val (.int p5), .val (.int v1), .val (.int (3 : Int32)), .val (.int v211), .val (.int v212), .val (.int v213), .val (.int v214), .val (.int v215), .val (.int v216), .val (.ref b217), .val (.ref b237), .val (.int v247), .val (.ref b248), .val (.ref b252), .val (.int r273), .unset, .unset, .unset] [(.int v247), (.ref b237)])) (fun tgt cont => ?_) ?_
      · refine XS.istore X270.here hx rfl (hb hby at_307) rfl (l' := #[.val (.int p1), .val (.int p2), .val (.int p3), .val (.int p4), .val (.int p5), .val (.int v1), .val (.int (3 : Int32)), .val (.int v211), .val (.int v212), .val (.int v213), .val (.int v214), .val (.int v215), .val (.int v216), .val (.ref b217), .val (.ref b237), .val (.int v247), .val (.ref b248), .val (.ref b252), .val (.int r273), .unset, .unset, .unset]) rfl ?_
        refine XS.aload X270.here hx rfl (hb hby at_309) rfl rfl ?_
        refine XS.iload X270.here hx rfl (hb hby at_311) rfl ?_
        exact cont
      -- pc 313: Graph.degree
      have f275 := ((((f256.ext E252).keep K261).keep K266).keep K270)
      have f276 := (((((fl237_0.ext E248).ext E252).keep K261 (ninS ne_b237_b248 (ninS ne_b237_b252 nin0))).keep K266 (ninS ne_b237_b248 (ninS ne_b237_b252 nin0))).keep K270 (ninS ne_b237_b248 (ninS ne_b237_b252 nin0)))
      have f277 := (((((fl237_2.ext E248).ext E252).keep K261 (ninS ne_b237_b248 (ninS ne_b237_b252 nin0))).keep K266 (ninS ne_b237_b248 (ninS ne_b237_b252 nin0))).keep K270 (ninS ne_b237_b248 (ninS ne_b237_b252 nin0)))
      have f278 := ((((f258.ext E252).keep K261 (ninS ne_xf237_b248 (ninS ne_xf237_b252 nin0))).keep K266 (ninS ne_xf237_b248 (ninS ne_xf237_b252 nin0))).keep K270 (ninS ne_xf237_b248 (ninS ne_xf237_b252 nin0)))
      obtain ⟨cq274, kq274, qa274, qb274, qc274⟩ := isOf hZ rfl f275
      obtain ⟨_, _, ⟨T274, L274, k274, n274⟩, -, X274, ⟨Lc274, hQ274, l274, y274, z274⟩, st274⟩ := X270.virtualBack hx (y := (⟨"com/example/cyclecut/cyclecut/graph/Graph", "degree", "(I)I"⟩ : MethodName)) (z := (⟨"com/example/cyclecut/cyclecut/graph/Graph", "degree", "(I)I"⟩ : MethodName)) hown (mvT hZ (hw _ (List.mem_of_getElem? (i := 72) rfl))) (mvT hZ (hw _ (List.mem_of_getElem? (i := 73) rfl))) (notFace_of_selects (args := #[]) (mvT hZ (hw _ (List.mem_of_getElem? (i := 75) rfl)))) (mvT hZ (hw _ (List.mem_of_getElem? (i := 75) rfl))) (mvT hZ (hw _ (List.mem_of_getElem? (i := 74) rfl))) (by decide) (backOf (W := 0) (rm9 l Z a0 hw [] b237 v247 v1 xf237 w241 T270.heap n0 zp270 f275 f276 f277 f278 B_v247.1 B_v247.2.1 (own_g3 n1 GS B_v247) (own_g4 n1 GS B_v247)) hZ (hw _ (List.mem_of_getElem? (i := 76) rfl)) (hw _ (List.mem_of_getElem? (i := 23) rfl)) (by decide) (by decide)) qa274 qc274 (g := (mkF m 313 #[.val (.int p1), .val (.int p2), .val (.int p3), .val (.int p4), .val (.int p5), .val (.int v1), .val (.int (3 : Int32)), .val (.int v211), .val (.int v212), .val (.int v213), .val (.int v214), .val (.int v215), .val (.int v216), .val (.ref b217), .val (.ref b237), .val (.int v247), .val (.ref b248), .val (.ref b252), .val (.int r273), .unset, .unset, .unset] [(.int v247), (.ref b237)])) rfl (by rw [hml]; rfl) (Steps.refl _) (argsL := [(.int v247)]) (rest := []) (lenOf own_pd5 rfl) rfl (by show 2 * 0 + _ ≤ _; exact Nat.le_of_eq rfl) (hb hby at_313) (fun _ _ => ⟨rfl, rfl, (by decide : 0 + 1 + 2 + 0 + 0 + 0 + 7 + 0 + 0 + 1 + 1 + 0 + 0 + 0 + 0 ≤ _), (by decide : 0 + 4 + 24 + 0 + 0 + 0 + 150 + 0 + 0 + 6 + 6 + 0 + 0 + 0 + 0 ≤ _)⟩)
      dsimp only [Pt.U, Pt.locs, Pt.cells, Pt.slots] at X274 l274 y274 z274 st274 hQ274
      subst l274 y274 z274
      obtain ⟨rfl, N274q, e274⟩ := hQ274
      have N274 := Fr.app N270 N274q
      refine own_go (fun tgt cont => st274.trans cont) ?_
      show own_Go p e below s (Q0 n0) room_1.cells room_1.slots (T274.setTop (mkF m 316 #[.val (.int p1), .val (.int p2), .val (.int p3), .val (.int p4), .val (.int p5), .val (.int v1), .val (.int (3 : Int32)), .val (.int v211), .val (.int v212), .val (.int v213), .val (.int v214), .val (.int v215), .val (.int v216), .val (.ref b217), .val (.ref b237), .val (.int v247), .val (.ref b248), .val (.ref b252), .val (.int r273), .unset, .unset, .unset] [(.int (own_gdg_r v247 v1 w241))]))
      generalize hr279 : (own_gdg_r v247 v1 w241) = r279
      refine own_go (B := T274.setTop (mkF m 325 #[.val (.int p1), .val (.int p2), .val (.int p3), .val (.int p4), .val (.int p5), .val (.int v1), .val (.int (3 : Int32)), .val (.int v211), .val (.int v212), .val (.int v213), .val (.int v214), .val (.int v215), .val (.int v216), .val (.ref b217), .val (.ref b237), .val (.int v247), .val (.ref b248), .val (.ref b252), .val (.int r273), .unset, .unset, .unset] [(.int r273)])) (fun tgt cont => ?_) ?_
      · refine XS.iload X274.here hx rfl (hb hby at_316) rfl ?_
        refine XS.icmpYes X274.here hx rfl (pc0 := 318) (pc' := 323) rfl (hb hby at_318) rfl (XT.ii_eq_t (by rw [← hr279]; exact (own_degE n1 GS B_v247).trans NB3.2.2.1.symm)) (by decide) (by decide) ?_
        refine XS.iload X274.here hx rfl (hb hby at_323) rfl ?_
        exact cont
      have K280 : ∀ (T280 : State) (L280 : List Loc) (o281 : Slot) (X280 : Stand p l e room_1 s m #[(.int p1), (.int p2), (.int p3), (.int p4), (.int p5)] below meth c T280 L280 12 190) (e280 : T280.heap = T270.heap) (N280 : Fr n0 L280) (ho281 : o281 = .unset ∨ ∃ w, o281 = .val w ∧ w.category = 1), own_Go p e below s (Q0 n0) room_1.cells room_1.slots (T280.setTop (mkF m 377 #[.val (.int p1), .val (.int p2), .val (.int p3), .val (.int p4), .val (.int p5), .val (.int v1), .val (.int (3 : Int32)), .val (.int v211), .val (.int v212), .val (.int v213), .val (.int v214), .val (.int v215), .val (.int v216), .val (.ref b217), .val (.ref b237), .val (.int v247), .val (.ref b248), .val (.ref b252), .val (.int r273), o281, .unset, .unset] [])) := by
        intro T280 L280 o281 X280 e280 N280 ho281
        refine own_go (B := T280.setTop (mkF m 391 #[.val (.int p1), .val (.int p2), .val (.int p3), .val (.int p4), .val (.int p5), .val (.int v1), .val (.int (3 : Int32)), .val (.int v211), .val (.int v212), .val (.int v213), .val (.int v214), .val (.int v215), .val (.int v216), .val (.ref b217), .val (.ref b237), .val (.int v247), .val (.ref b248), .val (.ref b252), .val (.int r273), o281, .unset, .unset] [(.int ((p5 &&& (255 : Int32)) % (3 : Int32)))])) (fun tgt cont => ?_) ?_
        · refine XS.iload X280.here hx rfl (hb hby at_377) rfl ?_
          refine XS.ifNo X280.here hx rfl (hb hby at_379) rfl (XT.i0_le_f (by first | decide | exact (show 0 < (3 : Int32) from by decide))) ?_
          refine XS.iload X280.here hx rfl (hb hby at_382) rfl ?_
          refine XT.sipushV X280.here hx rfl (255 : Int32) (hb hby at_384) rfl ?_
          refine XS.iand X280.here hx rfl (hb hby at_387) rfl ?_
          refine XS.iload X280.here hx rfl (hb hby at_388) rfl ?_
          refine iremM X280 hx rfl (hb hby at_390) rfl (by decide) ?_
          exact cont
        generalize hv282 : ((p5 &&& (255 : Int32)) % (3 : Int32)) = v282
        refine own_go (B := T280.setTop (mkF m 393 #[.val (.int p1), .val (.int p2), .val (.int p3), .val (.int p4), .val (.int p5), .val (.int v1), .val (.int (3 : Int32)), .val (.int v211), .val (.int v212), .val (.int v213), .val (.int v214), .val (.int v215), .val (.int v216), .val (.ref b217), .val (.ref b237), .val (.int v247), .val (.ref b248), .val (.ref b252), .val (.int r273), .val (.int v282), .unset, .unset] [])) (fun tgt cont => ?_) ?_
        · refine XS.istore X280.here hx rfl (hb hby at_391) rfl (l' := #[.val (.int p1), .val (.int p2), .val (.int p3), .val (.int p4), .val (.int p5), .val (.int v1), .val (.int (3 : Int32)), .val (.int v211), .val (.int v212), .val (.int v213), .val (.int v214), .val (.int v215), .val (.int v216), .val (.ref b217), .val (.ref b237), .val (.int v247), .val (.ref b248), .val (.ref b252), .val (.int r273), .val (.int v282), .unset, .unset]) (XS.store1 (o := o281) rfl ho281 rfl) ?_
          exact cont
        have ee : v282 = (0 : Int32) ∨ v282 = (1 : Int32) ∨ v282 = (2 : Int32) := by rw [← hv282]; exact own_ek3 _
        rcases ee with rfl | rfl | rfl
        ·
          refine own_go (B := T280.setTop (mkF m 443 #[.val (.int p1), .val (.int p2), .val (.int p3), .val (.int p4), .val (.int p5), .val (.int v1), .val (.int (3 : Int32)), .val (.int v211), .val (.int v212), .val (.int v213), .val (.int v214), .val (.int v215), .val (.int v216), .val (.ref b217), .val (.ref b237), .val (.int v247), .val (.ref b248), .val (.ref b252), .val (.int r273), .val (.int (0 : Int32)), .val (.int v211), .val (.int v212)] [])) (fun tgt cont => ?_) ?_
          · refine XS.iload X280.here hx rfl (hb hby at_393) rfl ?_
            refine XS.ifNo X280.here hx rfl (hb hby at_395) rfl (XT.i0_ne_f (by first | decide | exact (show (0 : Int32) = 0 from by decide))) ?_
            refine XS.iload X280.here hx rfl (hb hby at_398) rfl ?_
            refine XS.goto X280.here hx rfl (pc0 := 400) (pc' := 416) rfl (hb hby at_400) (by decide) (by decide) ?_
            refine XS.istore X280.here hx rfl (hb hby at_416) rfl (l' := #[.val (.int p1), .val (.int p2), .val (.int p3), .val (.int p4), .val (.int p5), .val (.int v1), .val (.int (3 : Int32)), .val (.int v211), .val (.int v212), .val (.int v213), .val (.int v214), .val (.int v215), .val (.int v216), .val (.ref b217), .val (.ref b237), .val (.int v247), .val (.ref b248), .val (.ref b252), .val (.int r273), .val (.int (0 : Int32)), .val (.int v211), .unset]) rfl ?_
            refine XS.iload X280.here hx rfl (hb hby at_418) rfl ?_
            refine XS.ifNo X280.here hx rfl (hb hby at_420) rfl (XT.i0_ne_f (by first | decide | exact (show (0 : Int32) = 0 from by decide))) ?_
            refine XS.iload X280.here hx rfl (hb hby at_423) rfl ?_
            refine XS.goto X280.here hx rfl (pc0 := 425) (pc' := 441) rfl (hb hby at_425) (by decide) (by decide) ?_
            refine XS.istore X280.here hx rfl (hb hby at_441) rfl (l' := #[.val (.int p1), .val (.int p2), .val (.int p3), .val (.int p4), .val (.int p5), .val (.int v1), .val (.int (3 : Int32)), .val (.int v211), .val (.int v212), .val (.int v213), .val (.int v214), .val (.int v215), .val (.int v216), .val (.ref b217), .val (.ref b237), .val (.int v247), .val (.ref b248), .val (.ref b252), .val (.int r273), .val (.int (0 : Int32)), .val (.int v211), .val (.int v212)]) rfl ?_
            exact cont
          refine own_go (B := T280.setTop (mkF m 447 #[.val (.int p1), .val (.int p2), .val (.int p3), .val (.int p4), .val (.int p5), .val (.int v1), .val (.int (3 : Int32)), .val (.int v211), .val (.int v212), .val (.int v213), .val (.int v214), .val (.int v215), .val (.int v216), .val (.ref b217), .val (.ref b237), .val (.int v247), .val (.ref b248), .val (.ref b252), .val (.int r273), .val (.int (0 : Int32)), .val (.int v211), .val (.int v212)] [(.int (0 : Int32)), (.ref b237)])) (fun tgt cont => ?_) ?_
          · refine XS.aload X280.here hx rfl (hb hby at_443) rfl rfl ?_
            refine XS.iload X280.here hx rfl (hb hby at_445) rfl ?_
            exact cont
          -- pc 447: Graph.firstEnd
          have f284 := (((((fl237_1.ext E248).ext E252).keep K261 (ninS ne_b237_b248 (ninS ne_b237_b252 nin0))).keep K266 (ninS ne_b237_b248 (ninS ne_b237_b252 nin0))).keep K270 (ninS ne_b237_b248 (ninS ne_b237_b252 nin0)))
          have f285 := ((((f257.ext E252).keep K261 (ninS ne_xe237_b248 (ninS ne_xe237_b252 nin0))).keep K266 (ninS ne_xe237_b248 (ninS ne_xe237_b252 nin0))).keep K270 (ninS ne_xe237_b248 (ninS ne_xe237_b252 nin0)))
          obtain ⟨cq283, kq283, qa283, qb283, qc283⟩ := isOf hZ e280 f275
          obtain ⟨_, _, ⟨T283, L283, k283, n283⟩, -, X283, ⟨Lc283, hQ283, l283, y283, z283⟩, st283⟩ := X280.virtualBack hx (y := (⟨"com/example/cyclecut/cyclecut/graph/Graph", "firstEnd", "(I)I"⟩ : MethodName)) (z := (⟨"com/example/cyclecut/cyclecut/graph/Graph", "firstEnd", "(I)I"⟩ : MethodName)) hown (mvT hZ (hw _ (List.mem_of_getElem? (i := 110) rfl))) (mvT hZ (hw _ (List.mem_of_getElem? (i := 111) rfl))) (notFace_of_selects (args := #[]) (mvT hZ (hw _ (List.mem_of_getElem? (i := 113) rfl)))) (mvT hZ (hw _ (List.mem_of_getElem? (i := 113) rfl))) (mvT hZ (hw _ (List.mem_of_getElem? (i := 112) rfl))) (by decide) (backOf (W := 0) (rm17 l Z a0 hw [] b237 (0 : Int32) xe237 w240 T270.heap n0 zp270 f275 f284 f285 (by decide) (own_q2_3_0 ll) (own_q3_3_0 ll)) hZ (hw _ (List.mem_of_getElem? (i := 114) rfl)) (hw _ (List.mem_of_getElem? (i := 23) rfl)) (by decide) (by decide)) qa283 qc283 (g := (mkF m 447 #[.val (.int p1), .val (.int p2), .val (.int p3), .val (.int p4), .val (.int p5), .val (.int v1), .val (.int (3 : Int32)), .val (.int v211), .val (.int v212), .val (.int v213), .val (.int v214), .val (.int v215), .val (.int v216), .val (.ref b217), .val (.ref b237), .val (.int v247), .val (.ref b248), .val (.ref b252), .val (.int r273), .val (.int (0 : Int32)), .val (.int v211), .val (.int v212)] [(.int (0 : Int32)), (.ref b237)])) rfl (by rw [hml]; rfl) (Steps.refl _) (argsL := [(.int (0 : Int32))]) (rest := []) (lenOf own_pd5 rfl) rfl (by show 2 * 0 + _ ≤ _; exact Nat.le_of_eq rfl) (hb hby at_447) (fun _ _ => ⟨rfl, e280, (by decide : 12 + 0 ≤ _), (by decide : 190 + 0 ≤ _)⟩)
          dsimp only [Pt.U, Pt.locs, Pt.cells, Pt.slots] at X283 l283 y283 z283 st283 hQ283
          subst l283 y283 z283
          obtain ⟨rfl, N283q, e283⟩ := hQ283
          have N283 := Fr.app N280 N283q
          refine own_go (fun tgt cont => st283.trans cont) ?_
          show own_Go p e below s (Q0 n0) room_1.cells room_1.slots (T283.setTop (mkF m 450 #[.val (.int p1), .val (.int p2), .val (.int p3), .val (.int p4), .val (.int p5), .val (.int v1), .val (.int (3 : Int32)), .val (.int v211), .val (.int v212), .val (.int v213), .val (.int v214), .val (.int v215), .val (.int v216), .val (.ref b217), .val (.ref b237), .val (.int v247), .val (.ref b248), .val (.ref b252), .val (.int r273), .val (.int (0 : Int32)), .val (.int v211), .val (.int v212)] [(.int (own_gfir_r (0 : Int32) w240))]))
          generalize hr286 : (own_gfir_r (0 : Int32) w240) = r286
          refine own_go (B := T283.setTop (mkF m 459 #[.val (.int p1), .val (.int p2), .val (.int p3), .val (.int p4), .val (.int p5), .val (.int v1), .val (.int (3 : Int32)), .val (.int v211), .val (.int v212), .val (.int v213), .val (.int v214), .val (.int v215), .val (.int v216), .val (.ref b217), .val (.ref b237), .val (.int v247), .val (.ref b248), .val (.ref b252), .val (.int r273), .val (.int (0 : Int32)), .val (.int v211), .val (.int v212)] [(.int (0 : Int32)), (.ref b237)])) (fun tgt cont => ?_) ?_
          · refine XS.iload X283.here hx rfl (hb hby at_450) rfl ?_
            refine XS.icmpNo X283.here hx rfl (hb hby at_452) rfl (XT.ii_ne_f (by rw [← hr286, le]; exact own_f_3_0 ..)) ?_
            refine XS.aload X283.here hx rfl (hb hby at_455) rfl rfl ?_
            refine XS.iload X283.here hx rfl (hb hby at_457) rfl ?_
            exact cont
          -- pc 459: Graph.secondEnd
          obtain ⟨cq287, kq287, qa287, qb287, qc287⟩ := isOf hZ e283 f275
          obtain ⟨_, _, ⟨T287, L287, k287, n287⟩, -, X287, ⟨Lc287, hQ287, l287, y287, z287⟩, st287⟩ := X283.virtualBack hx (y := (⟨"com/example/cyclecut/cyclecut/graph/Graph", "secondEnd", "(I)I"⟩ : MethodName)) (z := (⟨"com/example/cyclecut/cyclecut/graph/Graph", "secondEnd", "(I)I"⟩ : MethodName)) hown (mvT hZ (hw _ (List.mem_of_getElem? (i := 116) rfl))) (mvT hZ (hw _ (List.mem_of_getElem? (i := 117) rfl))) (notFace_of_selects (args := #[]) (mvT hZ (hw _ (List.mem_of_getElem? (i := 119) rfl)))) (mvT hZ (hw _ (List.mem_of_getElem? (i := 119) rfl))) (mvT hZ (hw _ (List.mem_of_getElem? (i := 118) rfl))) (by decide) (backOf (W := 0) (rm18 l Z a0 hw [] b237 (0 : Int32) xe237 w240 T270.heap n0 zp270 f275 f284 f285 (by decide) (own_q2_3_0 ll) (own_q4_3_0 ll)) hZ (hw _ (List.mem_of_getElem? (i := 120) rfl)) (hw _ (List.mem_of_getElem? (i := 23) rfl)) (by decide) (by decide)) qa287 qc287 (g := (mkF m 459 #[.val (.int p1), .val (.int p2), .val (.int p3), .val (.int p4), .val (.int p5), .val (.int v1), .val (.int (3 : Int32)), .val (.int v211), .val (.int v212), .val (.int v213), .val (.int v214), .val (.int v215), .val (.int v216), .val (.ref b217), .val (.ref b237), .val (.int v247), .val (.ref b248), .val (.ref b252), .val (.int r273), .val (.int (0 : Int32)), .val (.int v211), .val (.int v212)] [(.int (0 : Int32)), (.ref b237)])) rfl (by rw [hml]; rfl) (Steps.refl _) (argsL := [(.int (0 : Int32))]) (rest := []) (lenOf own_pd5 rfl) rfl (by show 2 * 0 + _ ≤ _; exact Nat.le_of_eq rfl) (hb hby at_459) (fun _ _ => ⟨rfl, e283, (by decide : 12 + 0 + 0 ≤ _), (by decide : 190 + 0 + 0 ≤ _)⟩)
          dsimp only [Pt.U, Pt.locs, Pt.cells, Pt.slots] at X287 l287 y287 z287 st287 hQ287
          subst l287 y287 z287
          obtain ⟨rfl, N287q, e287⟩ := hQ287
          have N287 := Fr.app N283 N287q
          refine own_go (fun tgt cont => st287.trans cont) ?_
          show own_Go p e below s (Q0 n0) room_1.cells room_1.slots (T287.setTop (mkF m 462 #[.val (.int p1), .val (.int p2), .val (.int p3), .val (.int p4), .val (.int p5), .val (.int v1), .val (.int (3 : Int32)), .val (.int v211), .val (.int v212), .val (.int v213), .val (.int v214), .val (.int v215), .val (.int v216), .val (.ref b217), .val (.ref b237), .val (.int v247), .val (.ref b248), .val (.ref b252), .val (.int r273), .val (.int (0 : Int32)), .val (.int v211), .val (.int v212)] [(.int (own_gsec_r (0 : Int32) w240))]))
          generalize hr288 : (own_gsec_r (0 : Int32) w240) = r288
          refine own_go (B := T287.setTop (mkF m 470 #[.val (.int p1), .val (.int p2), .val (.int p3), .val (.int p4), .val (.int p5), .val (.int v1), .val (.int (3 : Int32)), .val (.int v211), .val (.int v212), .val (.int v213), .val (.int v214), .val (.int v215), .val (.int v216), .val (.ref b217), .val (.ref b237), .val (.int v247), .val (.ref b248), .val (.ref b252), .val (.int r273), .val (.int (0 : Int32)), .val (.int v211), .val (.int v212)] [(.int (1 : Int32))])) (fun tgt cont => ?_) ?_
          · refine XS.iload X287.here hx rfl (hb hby at_462) rfl ?_
            refine XS.icmpYes X287.here hx rfl (pc0 := 464) (pc' := 469) rfl (hb hby at_464) rfl (XT.ii_eq_t (by rw [← hr288, le]; exact own_s_3_0 ..)) (by decide) (by decide) ?_
            refine XT.iconstV X287.here hx rfl (1 : Int32) (hb hby at_469) rfl ?_
            exact cont
          refine own_end X287 (v := some (.int (1 : Int32))) (fun h => by rw [Bd.returns] at h; cases h) hlk ?_ (by decide) (by decide) (fun fs hl => retN X287 hx (t := .boolean) Bd.returns (by simp) (hb hby at_470) hl)
          exact ⟨rfl, N287⟩
        ·
          refine own_go (B := T280.setTop (mkF m 430 #[.val (.int p1), .val (.int p2), .val (.int p3), .val (.int p4), .val (.int p5), .val (.int v1), .val (.int (3 : Int32)), .val (.int v211), .val (.int v212), .val (.int v213), .val (.int v214), .val (.int v215), .val (.int v216), .val (.ref b217), .val (.ref b237), .val (.int v247), .val (.ref b248), .val (.ref b252), .val (.int r273), .val (.int (1 : Int32)), .val (.int v213), .unset] [(.int (1 : Int32))])) (fun tgt cont => ?_) ?_
          · refine XS.iload X280.here hx rfl (hb hby at_393) rfl ?_
            refine XS.ifYes X280.here hx rfl (pc0 := 395) (pc' := 403) rfl (hb hby at_395) rfl (XT.i0_ne_t (by first | decide | exact (show ¬ ((1 : Int32) = 0) from by decide))) (by decide) (by decide) ?_
            refine XS.iload X280.here hx rfl (hb hby at_403) rfl ?_
            refine XT.iconstV X280.here hx rfl (1 : Int32) (hb hby at_405) rfl ?_
            refine XS.icmpNo X280.here hx rfl (hb hby at_406) rfl (XT.ii_ne_f (by first | decide | exact (show (1 : Int32) = (1 : Int32) from by decide))) ?_
            refine XS.iload X280.here hx rfl (hb hby at_409) rfl ?_
            refine XS.goto X280.here hx rfl (pc0 := 411) (pc' := 416) rfl (hb hby at_411) (by decide) (by decide) ?_
            refine XS.istore X280.here hx rfl (hb hby at_416) rfl (l' := #[.val (.int p1), .val (.int p2), .val (.int p3), .val (.int p4), .val (.int p5), .val (.int v1), .val (.int (3 : Int32)), .val (.int v211), .val (.int v212), .val (.int v213), .val (.int v214), .val (.int v215), .val (.int v216), .val (.ref b217), .val (.ref b237), .val (.int v247), .val (.ref b248), .val (.ref b252), .val (.int r273), .val (.int (1 : Int32)), .val (.int v213), .unset]) rfl ?_
            refine XS.iload X280.here hx rfl (hb hby at_418) rfl ?_
            refine XS.ifYes X280.here hx rfl (pc0 := 420) (pc' := 428) rfl (hb hby at_420) rfl (XT.i0_ne_t (by first | decide | exact (show ¬ ((1 : Int32) = 0) from by decide))) (by decide) (by decide) ?_
            refine XS.iload X280.here hx rfl (hb hby at_428) rfl ?_
            exact cont
          refine own_go (B := T280.setTop (mkF m 447 #[.val (.int p1), .val (.int p2), .val (.int p3), .val (.int p4), .val (.int p5), .val (.int v1), .val (.int (3 : Int32)), .val (.int v211), .val (.int v212), .val (.int v213), .val (.int v214), .val (.int v215), .val (.int v216), .val (.ref b217), .val (.ref b237), .val (.int v247), .val (.ref b248), .val (.ref b252), .val (.int r273), .val (.int (1 : Int32)), .val (.int v213), .val (.int v214)] [(.int (1 : Int32)), (.ref b237)])) (fun tgt cont => ?_) ?_
          · refine XT.iconstV X280.here hx rfl (1 : Int32) (hb hby at_430) rfl ?_
            refine XS.icmpNo X280.here hx rfl (hb hby at_431) rfl (XT.ii_ne_f (by first | decide | exact (show (1 : Int32) = (1 : Int32) from by decide))) ?_
            refine XS.iload X280.here hx rfl (hb hby at_434) rfl ?_
            refine XS.goto X280.here hx rfl (pc0 := 436) (pc' := 441) rfl (hb hby at_436) (by decide) (by decide) ?_
            refine XS.istore X280.here hx rfl (hb hby at_441) rfl (l' := #[.val (.int p1), .val (.int p2), .val (.int p3), .val (.int p4), .val (.int p5), .val (.int v1), .val (.int (3 : Int32)), .val (.int v211), .val (.int v212), .val (.int v213), .val (.int v214), .val (.int v215), .val (.int v216), .val (.ref b217), .val (.ref b237), .val (.int v247), .val (.ref b248), .val (.ref b252), .val (.int r273), .val (.int (1 : Int32)), .val (.int v213), .val (.int v214)]) rfl ?_
            refine XS.aload X280.here hx rfl (hb hby at_443) rfl rfl ?_
            refine XS.iload X280.here hx rfl (hb hby at_445) rfl ?_
            exact cont
          -- pc 447: Graph.firstEnd
          have f290 := (((((fl237_1.ext E248).ext E252).keep K261 (ninS ne_b237_b248 (ninS ne_b237_b252 nin0))).keep K266 (ninS ne_b237_b248 (ninS ne_b237_b252 nin0))).keep K270 (ninS ne_b237_b248 (ninS ne_b237_b252 nin0)))
          have f291 := ((((f257.ext E252).keep K261 (ninS ne_xe237_b248 (ninS ne_xe237_b252 nin0))).keep K266 (ninS ne_xe237_b248 (ninS ne_xe237_b252 nin0))).keep K270 (ninS ne_xe237_b248 (ninS ne_xe237_b252 nin0)))
          obtain ⟨cq289, kq289, qa289, qb289, qc289⟩ := isOf hZ e280 f275
          obtain ⟨_, _, ⟨T289, L289, k289, n289⟩, -, X289, ⟨Lc289, hQ289, l289, y289, z289⟩, st289⟩ := X280.virtualBack hx (y := (⟨"com/example/cyclecut/cyclecut/graph/Graph", "firstEnd", "(I)I"⟩ : MethodName)) (z := (⟨"com/example/cyclecut/cyclecut/graph/Graph", "firstEnd", "(I)I"⟩ : MethodName)) hown (mvT hZ (hw _ (List.mem_of_getElem? (i := 110) rfl))) (mvT hZ (hw _ (List.mem_of_getElem? (i := 111) rfl))) (notFace_of_selects (args := #[]) (mvT hZ (hw _ (List.mem_of_getElem? (i := 113) rfl)))) (mvT hZ (hw _ (List.mem_of_getElem? (i := 113) rfl))) (mvT hZ (hw _ (List.mem_of_getElem? (i := 112) rfl))) (by decide) (backOf (W := 0) (rm17 l Z a0 hw [] b237 (1 : Int32) xe237 w240 T270.heap n0 zp270 f275 f290 f291 (by decide) (own_q2_3_1 ll) (own_q3_3_1 ll)) hZ (hw _ (List.mem_of_getElem? (i := 114) rfl)) (hw _ (List.mem_of_getElem? (i := 23) rfl)) (by decide) (by decide)) qa289 qc289 (g := (mkF m 447 #[.val (.int p1), .val (.int p2), .val (.int p3), .val (.int p4), .val (.int p5), .val (.int v1), .val (.int (3 : Int32)), .val (.int v211), .val (.int v212), .val (.int v213), .val (.int v214), .val (.int v215), .val (.int v216), .val (.ref b217), .val (.ref b237), .val (.int v247), .val (.ref b248), .val (.ref b252), .val (.int r273), .val (.int (1 : Int32)), .val (.int v213), .val (.int v214)] [(.int (1 : Int32)), (.ref b237)])) rfl (by rw [hml]; rfl) (Steps.refl _) (argsL := [(.int (1 : Int32))]) (rest := []) (lenOf own_pd5 rfl) rfl (by show 2 * 0 + _ ≤ _; exact Nat.le_of_eq rfl) (hb hby at_447) (fun _ _ => ⟨rfl, e280, (by decide : 12 + 0 ≤ _), (by decide : 190 + 0 ≤ _)⟩)
          dsimp only [Pt.U, Pt.locs, Pt.cells, Pt.slots] at X289 l289 y289 z289 st289 hQ289
          subst l289 y289 z289
          obtain ⟨rfl, N289q, e289⟩ := hQ289
          have N289 := Fr.app N280 N289q
          refine own_go (fun tgt cont => st289.trans cont) ?_
          show own_Go p e below s (Q0 n0) room_1.cells room_1.slots (T289.setTop (mkF m 450 #[.val (.int p1), .val (.int p2), .val (.int p3), .val (.int p4), .val (.int p5), .val (.int v1), .val (.int (3 : Int32)), .val (.int v211), .val (.int v212), .val (.int v213), .val (.int v214), .val (.int v215), .val (.int v216), .val (.ref b217), .val (.ref b237), .val (.int v247), .val (.ref b248), .val (.ref b252), .val (.int r273), .val (.int (1 : Int32)), .val (.int v213), .val (.int v214)] [(.int (own_gfir_r (1 : Int32) w240))]))
          generalize hr292 : (own_gfir_r (1 : Int32) w240) = r292
          refine own_go (B := T289.setTop (mkF m 459 #[.val (.int p1), .val (.int p2), .val (.int p3), .val (.int p4), .val (.int p5), .val (.int v1), .val (.int (3 : Int32)), .val (.int v211), .val (.int v212), .val (.int v213), .val (.int v214), .val (.int v215), .val (.int v216), .val (.ref b217), .val (.ref b237), .val (.int v247), .val (.ref b248), .val (.ref b252), .val (.int r273), .val (.int (1 : Int32)), .val (.int v213), .val (.int v214)] [(.int (1 : Int32)), (.ref b237)])) (fun tgt cont => ?_) ?_
          · refine XS.iload X289.here hx rfl (hb hby at_450) rfl ?_
            refine XS.icmpNo X289.here hx rfl (hb hby at_452) rfl (XT.ii_ne_f (by rw [← hr292, le]; exact own_f_3_1 ..)) ?_
            refine XS.aload X289.here hx rfl (hb hby at_455) rfl rfl ?_
            refine XS.iload X289.here hx rfl (hb hby at_457) rfl ?_
            exact cont
          -- pc 459: Graph.secondEnd
          obtain ⟨cq293, kq293, qa293, qb293, qc293⟩ := isOf hZ e289 f275
          obtain ⟨_, _, ⟨T293, L293, k293, n293⟩, -, X293, ⟨Lc293, hQ293, l293, y293, z293⟩, st293⟩ := X289.virtualBack hx (y := (⟨"com/example/cyclecut/cyclecut/graph/Graph", "secondEnd", "(I)I"⟩ : MethodName)) (z := (⟨"com/example/cyclecut/cyclecut/graph/Graph", "secondEnd", "(I)I"⟩ : MethodName)) hown (mvT hZ (hw _ (List.mem_of_getElem? (i := 116) rfl))) (mvT hZ (hw _ (List.mem_of_getElem? (i := 117) rfl))) (notFace_of_selects (args := #[]) (mvT hZ (hw _ (List.mem_of_getElem? (i := 119) rfl)))) (mvT hZ (hw _ (List.mem_of_getElem? (i := 119) rfl))) (mvT hZ (hw _ (List.mem_of_getElem? (i := 118) rfl))) (by decide) (backOf (W := 0) (rm18 l Z a0 hw [] b237 (1 : Int32) xe237 w240 T270.heap n0 zp270 f275 f290 f291 (by decide) (own_q2_3_1 ll) (own_q4_3_1 ll)) hZ (hw _ (List.mem_of_getElem? (i := 120) rfl)) (hw _ (List.mem_of_getElem? (i := 23) rfl)) (by decide) (by decide)) qa293 qc293 (g := (mkF m 459 #[.val (.int p1), .val (.int p2), .val (.int p3), .val (.int p4), .val (.int p5), .val (.int v1), .val (.int (3 : Int32)), .val (.int v211), .val (.int v212), .val (.int v213), .val (.int v214), .val (.int v215), .val (.int v216), .val (.ref b217), .val (.ref b237), .val (.int v247), .val (.ref b248), .val (.ref b252), .val (.int r273), .val (.int (1 : Int32)), .val (.int v213), .val (.int v214)] [(.int (1 : Int32)), (.ref b237)])) rfl (by rw [hml]; rfl) (Steps.refl _) (argsL := [(.int (1 : Int32))]) (rest := []) (lenOf own_pd5 rfl) rfl (by show 2 * 0 + _ ≤ _; exact Nat.le_of_eq rfl) (hb hby at_459) (fun _ _ => ⟨rfl, e289, (by decide : 12 + 0 + 0 ≤ _), (by decide : 190 + 0 + 0 ≤ _)⟩)
          dsimp only [Pt.U, Pt.locs, Pt.cells, Pt.slots] at X293 l293 y293 z293 st293 hQ293
          subst l293 y293 z293
          obtain ⟨rfl, N293q, e293⟩ := hQ293
          have N293 := Fr.app N289 N293q
          refine own_go (fun tgt cont => st293.trans cont) ?_
          show own_Go p e below s (Q0 n0) room_1.cells room_1.slots (T293.setTop (mkF m 462 #[.val (.int p1), .val (.int p2), .val (.int p3), .val (.int p4), .val (.int p5), .val (.int v1), .val (.int (3 : Int32)), .val (.int v211), .val (.int v212), .val (.int v213), .val (.int v214), .val (.int v215), .val (.int v216), .val (.ref b217), .val (.ref b237), .val (.int v247), .val (.ref b248), .val (.ref b252), .val (.int r273), .val (.int (1 : Int32)), .val (.int v213), .val (.int v214)] [(.int (own_gsec_r (1 : Int32) w240))]))
          generalize hr294 : (own_gsec_r (1 : Int32) w240) = r294
          refine own_go (B := T293.setTop (mkF m 470 #[.val (.int p1), .val (.int p2), .val (.int p3), .val (.int p4), .val (.int p5), .val (.int v1), .val (.int (3 : Int32)), .val (.int v211), .val (.int v212), .val (.int v213), .val (.int v214), .val (.int v215), .val (.int v216), .val (.ref b217), .val (.ref b237), .val (.int v247), .val (.ref b248), .val (.ref b252), .val (.int r273), .val (.int (1 : Int32)), .val (.int v213), .val (.int v214)] [(.int (1 : Int32))])) (fun tgt cont => ?_) ?_
          · refine XS.iload X293.here hx rfl (hb hby at_462) rfl ?_
            refine XS.icmpYes X293.here hx rfl (pc0 := 464) (pc' := 469) rfl (hb hby at_464) rfl (XT.ii_eq_t (by rw [← hr294, le]; exact own_s_3_1 ..)) (by decide) (by decide) ?_
            refine XT.iconstV X293.here hx rfl (1 : Int32) (hb hby at_469) rfl ?_
            exact cont
          refine own_end X293 (v := some (.int (1 : Int32))) (fun h => by rw [Bd.returns] at h; cases h) hlk ?_ (by decide) (by decide) (fun fs hl => retN X293 hx (t := .boolean) Bd.returns (by simp) (hb hby at_470) hl)
          exact ⟨rfl, N293⟩
        ·
          refine own_go (B := T280.setTop (mkF m 430 #[.val (.int p1), .val (.int p2), .val (.int p3), .val (.int p4), .val (.int p5), .val (.int v1), .val (.int (3 : Int32)), .val (.int v211), .val (.int v212), .val (.int v213), .val (.int v214), .val (.int v215), .val (.int v216), .val (.ref b217), .val (.ref b237), .val (.int v247), .val (.ref b248), .val (.ref b252), .val (.int r273), .val (.int (2 : Int32)), .val (.int v215), .unset] [(.int (2 : Int32))])) (fun tgt cont => ?_) ?_
          · refine XS.iload X280.here hx rfl (hb hby at_393) rfl ?_
            refine XS.ifYes X280.here hx rfl (pc0 := 395) (pc' := 403) rfl (hb hby at_395) rfl (XT.i0_ne_t (by first | decide | exact (show ¬ ((2 : Int32) = 0) from by decide))) (by decide) (by decide) ?_
            refine XS.iload X280.here hx rfl (hb hby at_403) rfl ?_
            refine XT.iconstV X280.here hx rfl (1 : Int32) (hb hby at_405) rfl ?_
            refine XS.icmpYes X280.here hx rfl (pc0 := 406) (pc' := 414) rfl (hb hby at_406) rfl (XT.ii_ne_t (by first | decide | exact (show ¬ ((2 : Int32) = (1 : Int32)) from by decide))) (by decide) (by decide) ?_
            refine XS.iload X280.here hx rfl (hb hby at_414) rfl ?_
            refine XS.istore X280.here hx rfl (hb hby at_416) rfl (l' := #[.val (.int p1), .val (.int p2), .val (.int p3), .val (.int p4), .val (.int p5), .val (.int v1), .val (.int (3 : Int32)), .val (.int v211), .val (.int v212), .val (.int v213), .val (.int v214), .val (.int v215), .val (.int v216), .val (.ref b217), .val (.ref b237), .val (.int v247), .val (.ref b248), .val (.ref b252), .val (.int r273), .val (.int (2 : Int32)), .val (.int v215), .unset]) rfl ?_
            refine XS.iload X280.here hx rfl (hb hby at_418) rfl ?_
            refine XS.ifYes X280.here hx rfl (pc0 := 420) (pc' := 428) rfl (hb hby at_420) rfl (XT.i0_ne_t (by first | decide | exact (show ¬ ((2 : Int32) = 0) from by decide))) (by decide) (by decide) ?_
            refine XS.iload X280.here hx rfl (hb hby at_428) rfl ?_
            exact cont
          refine own_go (B := T280.setTop (mkF m 447 #[.val (.int p1), .val (.int p2), .val (.int p3), .val (.int p4), .val (.int p5), .val (.int v1), .val (.int (3 : Int32)), .val (.int v211), .val (.int v212), .val (.int v213), .val (.int v214), .val (.int v215), .val (.int v216), .val (.ref b217), .val (.ref b237), .val (.int v247), .val (.ref b248), .val (.ref b252), .val (.int r273), .val (.int (2 : Int32)), .val (.int v215), .val (.int v216)] [(.int (2 : Int32)), (.ref b237)])) (fun tgt cont => ?_) ?_
          · refine XT.iconstV X280.here hx rfl (1 : Int32) (hb hby at_430) rfl ?_
            refine XS.icmpYes X280.here hx rfl (pc0 := 431) (pc' := 439) rfl (hb hby at_431) rfl (XT.ii_ne_t (by first | decide | exact (show ¬ ((2 : Int32) = (1 : Int32)) from by decide))) (by decide) (by decide) ?_
            refine XS.iload X280.here hx rfl (hb hby at_439) rfl ?_
            refine XS.istore X280.here hx rfl (hb hby at_441) rfl (l' := #[.val (.int p1), .val (.int p2), .val (.int p3), .val (.int p4), .val (.int p5), .val (.int v1), .val (.int (3 : Int32)), .val (.int v211), .val (.int v212), .val (.int v213), .val (.int v214), .val (.int v215), .val (.int v216), .val (.ref b217), .val (.ref b237), .val (.int v247), .val (.ref b248), .val (.ref b252), .val (.int r273), .val (.int (2 : Int32)), .val (.int v215), .val (.int v216)]) rfl ?_
            refine XS.aload X280.here hx rfl (hb hby at_443) rfl rfl ?_
            refine XS.iload X280.here hx rfl (hb hby at_445) rfl ?_
            exact cont
          -- pc 447: Graph.firstEnd
          have f296 := (((((fl237_1.ext E248).ext E252).keep K261 (ninS ne_b237_b248 (ninS ne_b237_b252 nin0))).keep K266 (ninS ne_b237_b248 (ninS ne_b237_b252 nin0))).keep K270 (ninS ne_b237_b248 (ninS ne_b237_b252 nin0)))
          have f297 := ((((f257.ext E252).keep K261 (ninS ne_xe237_b248 (ninS ne_xe237_b252 nin0))).keep K266 (ninS ne_xe237_b248 (ninS ne_xe237_b252 nin0))).keep K270 (ninS ne_xe237_b248 (ninS ne_xe237_b252 nin0)))
          obtain ⟨cq295, kq295, qa295, qb295, qc295⟩ := isOf hZ e280 f275
          obtain ⟨_, _, ⟨T295, L295, k295, n295⟩, -, X295, ⟨Lc295, hQ295, l295, y295, z295⟩, st295⟩ := X280.virtualBack hx (y := (⟨"com/example/cyclecut/cyclecut/graph/Graph", "firstEnd", "(I)I"⟩ : MethodName)) (z := (⟨"com/example/cyclecut/cyclecut/graph/Graph", "firstEnd", "(I)I"⟩ : MethodName)) hown (mvT hZ (hw _ (List.mem_of_getElem? (i := 110) rfl))) (mvT hZ (hw _ (List.mem_of_getElem? (i := 111) rfl))) (notFace_of_selects (args := #[]) (mvT hZ (hw _ (List.mem_of_getElem? (i := 113) rfl)))) (mvT hZ (hw _ (List.mem_of_getElem? (i := 113) rfl))) (mvT hZ (hw _ (List.mem_of_getElem? (i := 112) rfl))) (by decide) (backOf (W := 0) (rm17 l Z a0 hw [] b237 (2 : Int32) xe237 w240 T270.heap n0 zp270 f275 f296 f297 (by decide) (own_q2_3_2 ll) (own_q3_3_2 ll)) hZ (hw _ (List.mem_of_getElem? (i := 114) rfl)) (hw _ (List.mem_of_getElem? (i := 23) rfl)) (by decide) (by decide)) qa295 qc295 (g := (mkF m 447 #[.val (.int p1), .val (.int p2), .val (.int p3), .val (.int p4), .val (.int p5), .val (.int v1), .val (.int (3 : Int32)), .val (.int v211), .val (.int v212), .val (.int v213), .val (.int v214), .val (.int v215), .val (.int v216), .val (.ref b217), .val (.ref b237), .val (.int v247), .val (.ref b248), .val (.ref b252), .val (.int r273), .val (.int (2 : Int32)), .val (.int v215), .val (.int v216)] [(.int (2 : Int32)), (.ref b237)])) rfl (by rw [hml]; rfl) (Steps.refl _) (argsL := [(.int (2 : Int32))]) (rest := []) (lenOf own_pd5 rfl) rfl (by show 2 * 0 + _ ≤ _; exact Nat.le_of_eq rfl) (hb hby at_447) (fun _ _ => ⟨rfl, e280, (by decide : 12 + 0 ≤ _), (by decide : 190 + 0 ≤ _)⟩)
          dsimp only [Pt.U, Pt.locs, Pt.cells, Pt.slots] at X295 l295 y295 z295 st295 hQ295
          subst l295 y295 z295
          obtain ⟨rfl, N295q, e295⟩ := hQ295
          have N295 := Fr.app N280 N295q
          refine own_go (fun tgt cont => st295.trans cont) ?_
          show own_Go p e below s (Q0 n0) room_1.cells room_1.slots (T295.setTop (mkF m 450 #[.val (.int p1), .val (.int p2), .val (.int p3), .val (.int p4), .val (.int p5), .val (.int v1), .val (.int (3 : Int32)), .val (.int v211), .val (.int v212), .val (.int v213), .val (.int v214), .val (.int v215), .val (.int v216), .val (.ref b217), .val (.ref b237), .val (.int v247), .val (.ref b248), .val (.ref b252), .val (.int r273), .val (.int (2 : Int32)), .val (.int v215), .val (.int v216)] [(.int (own_gfir_r (2 : Int32) w240))]))
          generalize hr298 : (own_gfir_r (2 : Int32) w240) = r298
          refine own_go (B := T295.setTop (mkF m 459 #[.val (.int p1), .val (.int p2), .val (.int p3), .val (.int p4), .val (.int p5), .val (.int v1), .val (.int (3 : Int32)), .val (.int v211), .val (.int v212), .val (.int v213), .val (.int v214), .val (.int v215), .val (.int v216), .val (.ref b217), .val (.ref b237), .val (.int v247), .val (.ref b248), .val (.ref b252), .val (.int r273), .val (.int (2 : Int32)), .val (.int v215), .val (.int v216)] [(.int (2 : Int32)), (.ref b237)])) (fun tgt cont => ?_) ?_
          · refine XS.iload X295.here hx rfl (hb hby at_450) rfl ?_
            refine XS.icmpNo X295.here hx rfl (hb hby at_452) rfl (XT.ii_ne_f (by rw [← hr298, le]; exact own_f_3_2 ..)) ?_
            refine XS.aload X295.here hx rfl (hb hby at_455) rfl rfl ?_
            refine XS.iload X295.here hx rfl (hb hby at_457) rfl ?_
            exact cont
          -- pc 459: Graph.secondEnd
          obtain ⟨cq299, kq299, qa299, qb299, qc299⟩ := isOf hZ e295 f275
          obtain ⟨_, _, ⟨T299, L299, k299, n299⟩, -, X299, ⟨Lc299, hQ299, l299, y299, z299⟩, st299⟩ := X295.virtualBack hx (y := (⟨"com/example/cyclecut/cyclecut/graph/Graph", "secondEnd", "(I)I"⟩ : MethodName)) (z := (⟨"com/example/cyclecut/cyclecut/graph/Graph", "secondEnd", "(I)I"⟩ : MethodName)) hown (mvT hZ (hw _ (List.mem_of_getElem? (i := 116) rfl))) (mvT hZ (hw _ (List.mem_of_getElem? (i := 117) rfl))) (notFace_of_selects (args := #[]) (mvT hZ (hw _ (List.mem_of_getElem? (i := 119) rfl)))) (mvT hZ (hw _ (List.mem_of_getElem? (i := 119) rfl))) (mvT hZ (hw _ (List.mem_of_getElem? (i := 118) rfl))) (by decide) (backOf (W := 0) (rm18 l Z a0 hw [] b237 (2 : Int32) xe237 w240 T270.heap n0 zp270 f275 f296 f297 (by decide) (own_q2_3_2 ll) (own_q4_3_2 ll)) hZ (hw _ (List.mem_of_getElem? (i := 120) rfl)) (hw _ (List.mem_of_getElem? (i := 23) rfl)) (by decide) (by decide)) qa299 qc299 (g := (mkF m 459 #[.val (.int p1), .val (.int p2), .val (.int p3), .val (.int p4), .val (.int p5), .val (.int v1), .val (.int (3 : Int32)), .val (.int v211), .val (.int v212), .val (.int v213), .val (.int v214), .val (.int v215), .val (.int v216), .val (.ref b217), .val (.ref b237), .val (.int v247), .val (.ref b248), .val (.ref b252), .val (.int r273), .val (.int (2 : Int32)), .val (.int v215), .val (.int v216)] [(.int (2 : Int32)), (.ref b237)])) rfl (by rw [hml]; rfl) (Steps.refl _) (argsL := [(.int (2 : Int32))]) (rest := []) (lenOf own_pd5 rfl) rfl (by show 2 * 0 + _ ≤ _; exact Nat.le_of_eq rfl) (hb hby at_459) (fun _ _ => ⟨rfl, e295, (by decide : 12 + 0 + 0 ≤ _), (by decide : 190 + 0 + 0 ≤ _)⟩)
          dsimp only [Pt.U, Pt.locs, Pt.cells, Pt.slots] at X299 l299 y299 z299 st299 hQ299
          subst l299 y299 z299
          obtain ⟨rfl, N299q, e299⟩ := hQ299
          have N299 := Fr.app N295 N299q
          refine own_go (fun tgt cont => st299.trans cont) ?_
          show own_Go p e below s (Q0 n0) room_1.cells room_1.slots (T299.setTop (mkF m 462 #[.val (.int p1), .val (.int p2), .val (.int p3), .val (.int p4), .val (.int p5), .val (.int v1), .val (.int (3 : Int32)), .val (.int v211), .val (.int v212), .val (.int v213), .val (.int v214), .val (.int v215), .val (.int v216), .val (.ref b217), .val (.ref b237), .val (.int v247), .val (.ref b248), .val (.ref b252), .val (.int r273), .val (.int (2 : Int32)), .val (.int v215), .val (.int v216)] [(.int (own_gsec_r (2 : Int32) w240))]))
          generalize hr300 : (own_gsec_r (2 : Int32) w240) = r300
          refine own_go (B := T299.setTop (mkF m 470 #[.val (.int p1), .val (.int p2), .val (.int p3), .val (.int p4), .val (.int p5), .val (.int v1), .val (.int (3 : Int32)), .val (.int v211), .val (.int v212), .val (.int v213), .val (.int v214), .val (.int v215), .val (.int v216), .val (.ref b217), .val (.ref b237), .val (.int v247), .val (.ref b248), .val (.ref b252), .val (.int r273), .val (.int (2 : Int32)), .val (.int v215), .val (.int v216)] [(.int (1 : Int32))])) (fun tgt cont => ?_) ?_
          · refine XS.iload X299.here hx rfl (hb hby at_462) rfl ?_
            refine XS.icmpYes X299.here hx rfl (pc0 := 464) (pc' := 469) rfl (hb hby at_464) rfl (XT.ii_eq_t (by rw [← hr300, le]; exact own_s_3_2 ..)) (by decide) (by decide) ?_
            refine XT.iconstV X299.here hx rfl (1 : Int32) (hb hby at_469) rfl ?_
            exact cont
          refine own_end X299 (v := some (.int (1 : Int32))) (fun h => by rw [Bd.returns] at h; cases h) hlk ?_ (by decide) (by decide) (fun fs hl => retN X299 hx (t := .boolean) Bd.returns (by simp) (hb hby at_470) hl)
          exact ⟨rfl, N299⟩
      by_cases hc301 : 0 < r273
      ·
        refine own_go (B := T274.setTop (mkF m 339 #[.val (.int p1), .val (.int p2), .val (.int p3), .val (.int p4), .val (.int p5), .val (.int v1), .val (.int (3 : Int32)), .val (.int v211), .val (.int v212), .val (.int v213), .val (.int v214), .val (.int v215), .val (.int v216), .val (.ref b217), .val (.ref b237), .val (.int v247), .val (.ref b248), .val (.ref b252), .val (.int r273), .unset, .unset, .unset] [(.int ((((p4.toUInt32 >>> ((8 : Int32) &&& 31).toUInt32).toInt32) &&& (255 : Int32)) % r273))])) (fun tgt cont => ?_) ?_
        · refine XS.ifNo X274.here hx rfl (hb hby at_325) rfl (XT.i0_le_f hc301) ?_
          refine XS.iloadN X274.here hx rfl (hb hby at_328) rfl ?_
          refine XT.bipushV X274.here hx rfl (8 : Int32) (hb hby at_329) rfl ?_
          refine XS.iushr X274.here hx rfl (hb hby at_331) rfl ?_
          refine XT.sipushV X274.here hx rfl (255 : Int32) (hb hby at_332) rfl ?_
          refine XS.iand X274.here hx rfl (hb hby at_335) rfl ?_
          refine XS.iload X274.here hx rfl (hb hby at_336) rfl ?_
          refine iremM X274 hx rfl (hb hby at_338) rfl (own_cz hc301) ?_
          exact cont
        generalize hv302 : ((((p4.toUInt32 >>> ((8 : Int32) &&& 31).toUInt32).toInt32) &&& (255 : Int32)) % r273) = v302
        refine own_go (B := T274.setTop (mkF m 341 #[.val (.int p1), .val (.int p2), .val (.int p3), .val (.int p4), .val (.int p5), .val (.int v1), .val (.int (3 : Int32)), .val (.int v211), .val (.int v212), .val (.int v213), .val (.int v214), .val (.int v215), .val (.int v216), .val (.ref b217), .val (.ref b237), .val (.int v247), .val (.ref b248), .val (.ref b252), .val (.int r273), .val (.int v302), .unset, .unset] [])) (fun tgt cont => ?_) ?_
        · refine XS.istore X274.here hx rfl (hb hby at_339) rfl (l' := #[.val (.int p1), .val (.int p2), .val (.int p3), .val (.int p4), .val (.int p5), .val (.int v1), .val (.int (3 : Int32)), .val (.int v211), .val (.int v212), .val (.int v213), .val (.int v214), .val (.int v215), .val (.int v216), .val (.ref b217), .val (.ref b237), .val (.int v247), .val (.ref b248), .val (.ref b252), .val (.int r273), .val (.int v302), .unset, .unset]) rfl ?_
          exact cont
        have I1 : ¬ v302 < 0 ∧ v302 < r273 := by rw [← hv302]; exact own_iB hc301
        have T2 : v302 < own_gdg_r v247 v1 w241 := by rw [own_degE n1 GS B_v247, ← NB3.2.2.1]; exact I1.2
        refine own_go (B := T274.setTop (mkF m 347 #[.val (.int p1), .val (.int p2), .val (.int p3), .val (.int p4), .val (.int p5), .val (.int v1), .val (.int (3 : Int32)), .val (.int v211), .val (.int v212), .val (.int v213), .val (.int v214), .val (.int v215), .val (.int v216), .val (.ref b217), .val (.ref b237), .val (.int v247), .val (.ref b248), .val (.ref b252), .val (.int r273), .val (.int v302), .unset, .unset] [(.int v302), (.int v247), (.ref b237)])) (fun tgt cont => ?_) ?_
        · refine XS.aload X274.here hx rfl (hb hby at_341) rfl rfl ?_
          refine XS.iload X274.here hx rfl (hb hby at_343) rfl ?_
          refine XS.iload X274.here hx rfl (hb hby at_345) rfl ?_
          exact cont
        -- pc 347: Graph.neighbor
        have f304 := (((((fl237_3.ext E248).ext E252).keep K261 (ninS ne_b237_b248 (ninS ne_b237_b252 nin0))).keep K266 (ninS ne_b237_b248 (ninS ne_b237_b252 nin0))).keep K270 (ninS ne_b237_b248 (ninS ne_b237_b252 nin0)))
        have f305 := ((((f259.ext E252).keep K261 (ninS ne_xn237_b248 (ninS ne_xn237_b252 nin0))).keep K266 (ninS ne_xn237_b248 (ninS ne_xn237_b252 nin0))).keep K270 (ninS ne_xn237_b248 (ninS ne_xn237_b252 nin0)))
        obtain ⟨cq303, kq303, qa303, qb303, qc303⟩ := isOf hZ e274 f275
        obtain ⟨_, _, ⟨T303, L303, k303, n303⟩, -, X303, ⟨Lc303, hQ303, l303, y303, z303⟩, st303⟩ := X274.virtualBack hx (y := (⟨"com/example/cyclecut/cyclecut/graph/Graph", "neighbor", "(II)I"⟩ : MethodName)) (z := (⟨"com/example/cyclecut/cyclecut/graph/Graph", "neighbor", "(II)I"⟩ : MethodName)) hown (mvT hZ (hw _ (List.mem_of_getElem? (i := 95) rfl))) (mvT hZ (hw _ (List.mem_of_getElem? (i := 96) rfl))) (notFace_of_selects (args := #[]) (mvT hZ (hw _ (List.mem_of_getElem? (i := 98) rfl)))) (mvT hZ (hw _ (List.mem_of_getElem? (i := 98) rfl))) (mvT hZ (hw _ (List.mem_of_getElem? (i := 97) rfl))) (by decide) (backOf (W := 0) (rm14 l Z a0 hw [] b237 v247 v302 v1 xf237 xn237 w241 w242 T270.heap n0 zp270 f275 f276 f277 f304 f278 f305 (own_g0 n1 GS B_v247) B_v247.1 B_v247.2.1 (own_g3 n1 GS B_v247) (own_g4 n1 GS B_v247) I1.1 T2 (own_g6 n1 GS B_v247 NB3 (Nat.le_of_ble_eq_true rfl) I1.1 I1.2).1) hZ (hw _ (List.mem_of_getElem? (i := 99) rfl)) (hw _ (List.mem_of_getElem? (i := 23) rfl)) (by decide) (by decide)) qa303 qc303 (g := (mkF m 347 #[.val (.int p1), .val (.int p2), .val (.int p3), .val (.int p4), .val (.int p5), .val (.int v1), .val (.int (3 : Int32)), .val (.int v211), .val (.int v212), .val (.int v213), .val (.int v214), .val (.int v215), .val (.int v216), .val (.ref b217), .val (.ref b237), .val (.int v247), .val (.ref b248), .val (.ref b252), .val (.int r273), .val (.int v302), .unset, .unset] [(.int v302), (.int v247), (.ref b237)])) rfl (by rw [hml]; rfl) (Steps.refl _) (argsL := [(.int v247), (.int v302)]) (rest := []) (lenOf own_pd1 rfl) rfl (by show 2 * 0 + _ ≤ _; exact Nat.le_of_eq rfl) (hb hby at_347) (fun _ _ => ⟨rfl, e274, (by decide : 0 + 1 + 2 + 0 + 0 + 0 + 7 + 0 + 0 + 1 + 1 + 0 + 0 + 0 + 0 + 0 ≤ _), (by decide : 0 + 4 + 24 + 0 + 0 + 0 + 150 + 0 + 0 + 6 + 6 + 0 + 0 + 0 + 0 + 0 ≤ _)⟩)
        dsimp only [Pt.U, Pt.locs, Pt.cells, Pt.slots] at X303 l303 y303 z303 st303 hQ303
        subst l303 y303 z303
        obtain ⟨rfl, N303q, e303⟩ := hQ303
        have N303 := Fr.app N274 N303q
        refine own_go (fun tgt cont => st303.trans cont) ?_
        show own_Go p e below s (Q0 n0) room_1.cells room_1.slots (T303.setTop (mkF m 350 #[.val (.int p1), .val (.int p2), .val (.int p3), .val (.int p4), .val (.int p5), .val (.int v1), .val (.int (3 : Int32)), .val (.int v211), .val (.int v212), .val (.int v213), .val (.int v214), .val (.int v215), .val (.int v216), .val (.ref b217), .val (.ref b237), .val (.int v247), .val (.ref b248), .val (.ref b252), .val (.int r273), .val (.int v302), .unset, .unset] [(.int (own_gnei_r v247 v302 v1 w241 w242))]))
        generalize hr306 : (own_gnei_r v247 v302 v1 w241 w242) = r306
        refine own_go (B := T303.setTop (mkF m 364 #[.val (.int p1), .val (.int p2), .val (.int p3), .val (.int p4), .val (.int p5), .val (.int v1), .val (.int (3 : Int32)), .val (.int v211), .val (.int v212), .val (.int v213), .val (.int v214), .val (.int v215), .val (.int v216), .val (.ref b217), .val (.ref b237), .val (.int v247), .val (.ref b248), .val (.ref b252), .val (.int r273), .val (.int v302), .unset, .unset] [(.int v302), (.int v247), (.ref b237)])) (fun tgt cont => ?_) ?_
        · refine XS.aload X303.here hx rfl (hb hby at_350) rfl rfl ?_
          refine XS.iload X303.here hx rfl (hb hby at_352) rfl ?_
          refine own_ldIA X303 hx hZ e303 fa270_0 (j := v302) (own_iL NB3 (Nat.le_of_ble_eq_true rfl) I1.1 I1.2).1 (g := (mkF m 354 #[.val (.int p1), .val (.int p2), .val (.int p3), .val (.int p4), .val (.int p5), .val (.int v1), .val (.int (3 : Int32)), .val (.int v211), .val (.int v212), .val (.int v213), .val (.int v214), .val (.int v215), .val (.int v216), .val (.ref b217), .val (.ref b237), .val (.int v247), .val (.ref b248), .val (.ref b252), .val (.int r273), .val (.int v302), .unset, .unset] [(.int v302), (.ref b248), (.int r306)])) rfl rfl (hb hby at_354) ?_
          refine XS.icmpNo X303.here hx rfl (hb hby at_355) rfl (XT.ii_ne_f (by rw [← hr306]; exact (own_nbE n1 GS B_v247 NB3 (Nat.le_of_ble_eq_true rfl) I1.1 I1.2 (own_fh (Nat.le_of_ble_eq_true rfl))).1)) ?_
          refine XS.aload X303.here hx rfl (hb hby at_358) rfl rfl ?_
          refine XS.iload X303.here hx rfl (hb hby at_360) rfl ?_
          refine XS.iload X303.here hx rfl (hb hby at_362) rfl ?_
          exact cont
        -- pc 364: Graph.incidentEdge
        have f308 := (((((fl237_4.ext E248).ext E252).keep K261 (ninS ne_b237_b248 (ninS ne_b237_b252 nin0))).keep K266 (ninS ne_b237_b248 (ninS ne_b237_b252 nin0))).keep K270 (ninS ne_b237_b248 (ninS ne_b237_b252 nin0)))
        have f309 := ((((f260.ext E252).keep K261 (ninS ne_xs237_b248 (ninS ne_xs237_b252 nin0))).keep K266 (ninS ne_xs237_b248 (ninS ne_xs237_b252 nin0))).keep K270 (ninS ne_xs237_b248 (ninS ne_xs237_b252 nin0)))
        obtain ⟨cq307, kq307, qa307, qb307, qc307⟩ := isOf hZ e303 f275
        obtain ⟨_, _, ⟨T307, L307, k307, n307⟩, -, X307, ⟨Lc307, hQ307, l307, y307, z307⟩, st307⟩ := X303.virtualBack hx (y := (⟨"com/example/cyclecut/cyclecut/graph/Graph", "incidentEdge", "(II)I"⟩ : MethodName)) (z := (⟨"com/example/cyclecut/cyclecut/graph/Graph", "incidentEdge", "(II)I"⟩ : MethodName)) hown (mvT hZ (hw _ (List.mem_of_getElem? (i := 105) rfl))) (mvT hZ (hw _ (List.mem_of_getElem? (i := 106) rfl))) (notFace_of_selects (args := #[]) (mvT hZ (hw _ (List.mem_of_getElem? (i := 108) rfl)))) (mvT hZ (hw _ (List.mem_of_getElem? (i := 108) rfl))) (mvT hZ (hw _ (List.mem_of_getElem? (i := 107) rfl))) (by decide) (backOf (W := 0) (rm16 l Z a0 hw [] b237 v247 v302 v1 xf237 xs237 w241 w243 T270.heap n0 zp270 f275 f276 f277 f308 f278 f309 (own_g0 n1 GS B_v247) B_v247.1 B_v247.2.1 (own_g3 n1 GS B_v247) (own_g4 n1 GS B_v247) I1.1 T2 (own_g6 n1 GS B_v247 NB3 (Nat.le_of_ble_eq_true rfl) I1.1 I1.2).2) hZ (hw _ (List.mem_of_getElem? (i := 109) rfl)) (hw _ (List.mem_of_getElem? (i := 23) rfl)) (by decide) (by decide)) qa307 qc307 (g := (mkF m 364 #[.val (.int p1), .val (.int p2), .val (.int p3), .val (.int p4), .val (.int p5), .val (.int v1), .val (.int (3 : Int32)), .val (.int v211), .val (.int v212), .val (.int v213), .val (.int v214), .val (.int v215), .val (.int v216), .val (.ref b217), .val (.ref b237), .val (.int v247), .val (.ref b248), .val (.ref b252), .val (.int r273), .val (.int v302), .unset, .unset] [(.int v302), (.int v247), (.ref b237)])) rfl (by rw [hml]; rfl) (Steps.refl _) (argsL := [(.int v247), (.int v302)]) (rest := []) (lenOf own_pd1 rfl) rfl (by show 2 * 0 + _ ≤ _; exact Nat.le_of_eq rfl) (hb hby at_364) (fun _ _ => ⟨rfl, e303, (by decide : 0 + 1 + 2 + 0 + 0 + 0 + 7 + 0 + 0 + 1 + 1 + 0 + 0 + 0 + 0 + 0 + 0 ≤ _), (by decide : 0 + 4 + 24 + 0 + 0 + 0 + 150 + 0 + 0 + 6 + 6 + 0 + 0 + 0 + 0 + 0 + 0 ≤ _)⟩)
        dsimp only [Pt.U, Pt.locs, Pt.cells, Pt.slots] at X307 l307 y307 z307 st307 hQ307
        subst l307 y307 z307
        obtain ⟨rfl, N307q, e307⟩ := hQ307
        have N307 := Fr.app N303 N307q
        refine own_go (fun tgt cont => st307.trans cont) ?_
        show own_Go p e below s (Q0 n0) room_1.cells room_1.slots (T307.setTop (mkF m 367 #[.val (.int p1), .val (.int p2), .val (.int p3), .val (.int p4), .val (.int p5), .val (.int v1), .val (.int (3 : Int32)), .val (.int v211), .val (.int v212), .val (.int v213), .val (.int v214), .val (.int v215), .val (.int v216), .val (.ref b217), .val (.ref b237), .val (.int v247), .val (.ref b248), .val (.ref b252), .val (.int r273), .val (.int v302), .unset, .unset] [(.int (own_ginc_r v247 v302 v1 w241 w243))]))
        generalize hr310 : (own_ginc_r v247 v302 v1 w241 w243) = r310
        refine own_go (B := T307.setTop (mkF m 377 #[.val (.int p1), .val (.int p2), .val (.int p3), .val (.int p4), .val (.int p5), .val (.int v1), .val (.int (3 : Int32)), .val (.int v211), .val (.int v212), .val (.int v213), .val (.int v214), .val (.int v215), .val (.int v216), .val (.ref b217), .val (.ref b237), .val (.int v247), .val (.ref b248), .val (.ref b252), .val (.int r273), .val (.int v302), .unset, .unset] [])) (fun tgt cont => ?_) ?_
        · refine XS.aload X307.here hx rfl (hb hby at_367) rfl rfl ?_
          refine XS.iload X307.here hx rfl (hb hby at_369) rfl ?_
          refine own_ldIA X307 hx hZ e307 fa270_1 (j := v302) (own_iL NB3 (Nat.le_of_ble_eq_true rfl) I1.1 I1.2).2 (g := (mkF m 371 #[.val (.int p1), .val (.int p2), .val (.int p3), .val (.int p4), .val (.int p5), .val (.int v1), .val (.int (3 : Int32)), .val (.int v211), .val (.int v212), .val (.int v213), .val (.int v214), .val (.int v215), .val (.int v216), .val (.ref b217), .val (.ref b237), .val (.int v247), .val (.ref b248), .val (.ref b252), .val (.int r273), .val (.int v302), .unset, .unset] [(.int v302), (.ref b252), (.int r310)])) rfl rfl (hb hby at_371) ?_
          refine XS.icmpYes X307.here hx rfl (pc0 := 372) (pc' := 377) rfl (hb hby at_372) rfl (XT.ii_eq_t (by rw [← hr310]; exact (own_nbE n1 GS B_v247 NB3 (Nat.le_of_ble_eq_true rfl) I1.1 I1.2 (own_fh (Nat.le_of_ble_eq_true rfl))).2)) (by decide) (by decide) ?_
          exact cont
        exact K280 _ _ (.val (.int v302)) (own_wide X307 (by decide) (by decide)) e307 N307 (Or.inr ⟨_, rfl, rfl⟩)
      ·
        refine own_go (B := T274.setTop (mkF m 377 #[.val (.int p1), .val (.int p2), .val (.int p3), .val (.int p4), .val (.int p5), .val (.int v1), .val (.int (3 : Int32)), .val (.int v211), .val (.int v212), .val (.int v213), .val (.int v214), .val (.int v215), .val (.int v216), .val (.ref b217), .val (.ref b237), .val (.int v247), .val (.ref b248), .val (.ref b252), .val (.int r273), .unset, .unset, .unset] [])) (fun tgt cont => ?_) ?_
        · refine XS.ifYes X274.here hx rfl (pc0 := 325) (pc' := 377) rfl (hb hby at_325) rfl (XT.i0_le_t hc301) (by decide) (by decide) ?_
          exact cont
        exact K280 _ _ .unset (own_wide X274 (by decide) (by decide)) e274 N274 (Or.inl rfl)
set_option maxRecDepth 65536 in
set_option maxHeartbeats 40000000 in
theorem comes_1 {Post : Tables → Env → Array Value → State → Outcome → State → Prop} (hpost : ∀ tb e args s v u, (limb_1_1.after args s (.returned v) u = true ∧ limb_1_2.after args s (.returned v) u = true ∧ True) → FrameEnd s (.returned v) u (Jvm.fieldLocs frame_1_writes args s ++ Jvm.arrayLocs frame_1_arrays args s ++ Jvm.staticLocs frame_1_statics s) 32 256 → Post tb e args s (.returned v) u) :
    ArmFor flags0 classFile x code maxLocals ret World_1 tables_1 room_1 Calls_1 rest_1 Pre_1 Post := by
  intro l hfl _ _ p e ha hc hk s m args below hf hA hF happ hP
  obtain ⟨hcalls, hrest, hpre⟩ := hP
  obtain ⟨-, -, -, hnamed, -, -, -, hat⟩ := (Spec.applies_iff hf).mp happ
  obtain ⟨hg, hn⟩ := and_e (Cond.before_iff.mp (show (Jvm.Cond.and given_1 narrow_1).before args s = true from hpre))
  obtain ⟨g0, gr0⟩ := and_e hg
  obtain ⟨ga0, gr1⟩ := and_e gr0
  obtain ⟨ga1, gr2⟩ := and_e gr1
  obtain ⟨ga2, gr3⟩ := and_e gr2
  obtain ⟨ga3, gr4⟩ := and_e gr3
  obtain ⟨w0, w1, w2, w3, w4, rfl⟩ : ∃ w0 w1 w2 w3 w4 : Value, args = #[w0, w1, w2, w3, w4] := by
    have hs : args.size = 5 := by simpa [Cond.value, given_1] using g0
    obtain ⟨L⟩ := args
    match L, hs with
    | [w0, w1, w2, w3, w4], _ => exact ⟨w0, w1, w2, w3, w4, rfl⟩
  have hw := fun d (hd : d ∈ tables_1) => atoms_spec (ws := Jvm.Cond.code x code maxLocals ret :: tables_1) hat d (List.mem_cons_of_mem _ hd)
  obtain ⟨i0, ei0⟩ := is_v ga0
  obtain rfl : w0 = (.int i0) := Option.some.inj ei0
  obtain ⟨i1, ei1⟩ := is_v ga1
  obtain rfl : w1 = (.int i1) := Option.some.inj ei1
  obtain ⟨i2, ei2⟩ := is_v ga2
  obtain rfl : w2 = (.int i2) := Option.some.inj ei2
  obtain ⟨i3, ei3⟩ := is_v ga3
  obtain rfl : w3 = (.int i3) := Option.some.inj ei3
  obtain ⟨i4, ei4⟩ := is_v gr4
  obtain rfl : w4 = (.int i4) := Option.some.inj ei4
  obtain ⟨n, o, h1, h2, h3, _, L, rfl, ⟨rfl, N⟩, hq⟩ := rm0 l s _ hw tables_1 i0 i1 i2 i3 i4 s.heap s.heap.size (Nat.le_refl _) p e ha hc hk s m _ below hf ((Spec.applies_iff_loose hf).mp happ).1 ⟨rfl, State.Warmed39.refl s, rfl⟩ trivial
  refine ⟨n, _, h1, h2, h3, hpost _ _ _ _ _ _ ⟨Cond.after_iff.mpr rfl, Cond.after_iff.mpr (eq_i res_at (Term.int_eval (1)) rfl), trivial⟩ ⟨hq.1, hq.2.1, (hq.2.2.sift fun y hy => Or.inr (N y hy)).mono (by decide) (by decide)⟩⟩
theorem main_1_1 : Claimed_1_1 := comes_1 fun _ _ _ _ _ _ h hF => ⟨h.1, hF⟩
theorem main_1_2 : Claimed_1_2 := comes_1 fun _ _ _ _ _ _ h hF => ⟨h.2.1, hF⟩
end Jvm.Pilot.@@N@@
namespace Jvm.Pilot.@@N@@
open Jvm Jvm.ClassFile Sem Op Lib Jvm.Free Jvm.Stand Jvm.Pilot.@@N@@.Jvm.D
/-! MADE BY PROGRAM (witnessworld.py) out of the Statement's table words and the real class files: 15 classes; the members and pool entries that the words name. The judged class is class 1, her method 2. -/
namespace start1
open Jvm.ClassFile
def u (s : String) : CpInfo := .utf8 (stringToUtf16 s)
/-- a pool by its gaps: so many unusable entries, then the entry; so many at the end -/
def gap : Nat → List CpInfo → List CpInfo
  | 0, r => r
  | n + 1, r => .unusable :: gap n r
def poolList (es : List (Nat × CpInfo)) (last : Nat) : List CpInfo := es.foldr (fun e r => gap e.1 (e.2 :: r)) (gap last [])
def pool (es : List (Nat × CpInfo)) (last : Nat) : Array CpInfo := ⟨poolList es last⟩
def fileOf (pool : Array CpInfo) (this : Nat) (attrs : Array Attribute := #[]) (ms : Array MethodInfo := #[]) (fl : Nat := 33) (sup : Nat := 0) (ifs : Array Nat := #[]) (fds : Array FieldInfo := #[]) : ClassFile where
  minorVersion := 0
  majorVersion := 65
  constantPool := pool
  accessFlags := fl
  thisClass := this
  superClass := sup
  interfaces := ifs
  fields := fds
  methods := ms
  attributes := attrs
def plain (name : String) (sup : Option ClassId) : Class where
  name := name
  kind := .ordinary
  loader := none
  accessFlags := 33
  super := sup
  interfaces := #[]
  cf := none
  fields := #[]
  methods := #[]
  instanceTypes := #[]
  staticTypes := #[]
  resolved := #[]
  callSites := []
  init := .initialized
  statics := none
  mirror := none

def pool0 : Array CpInfo := pool [(5, u "<init>"), (0, u "()V"), (1, .class_ 10), (1, u "java/lang/Object"), (85, u "clone"), (0, u "()Ljava/lang/Object;")] 26

def k0c0 : Code := { maxStack := 0, maxLocals := 1, code := object_method_1_code, exceptionTable := #[], attributes := #[] }
def k0m0 : Method := { name := "<init>", desc := "()V", sig := { parameters := [], returnType := none }, accessFlags := 1, code := some k0c0 }
def k0m1 : Method := { name := "clone", desc := "()Ljava/lang/Object;", sig := { parameters := [], returnType := some (.object "java/lang/Object") }, accessFlags := 260, code := none }
/-- java/lang/Object -/
def k0 : Class := { plain "java/lang/Object" none with
  accessFlags := 33
  interfaces := #[]
  cf := some (fileOf pool0 8 #[] #[{ accessFlags := 1, nameIndex := 5, descriptorIndex := 6, attributes := #[] }, { accessFlags := 260, nameIndex := 96, descriptorIndex := 97, attributes := #[] }] 33 0 #[] #[])
  fields := #[]
  methods := #[k0m0, k0m1]
  instanceTypes := #[]
  staticTypes := #[]
  resolved := Array.replicate 124 none
  statics := none }

def pool1 : Array CpInfo := pool [(2, .class_ 4), (1, u "java/lang/Object"), (0, u "<init>"), (0, u "()V"), (0, .class_ 8), (0, u "com/example/cyclecut/cyclecut/graph/Graph$Builder"), (0, .methodref 7 10), (0, .nameAndType 5 11), (0, u "(I)V"), (0, .methodref 7 13), (0, .nameAndType 14 15), (0, u "addEdge"), (0, u "(II)I"), (0, .methodref 7 17), (0, .nameAndType 18 19), (0, u "build"), (0, u "()Lcom/example/cyclecut/cyclecut/graph/Graph;"), (0, .methodref 21 22), (0, .class_ 23), (0, .nameAndType 24 25), (0, u "com/example/cyclecut/cyclecut/graph/Graph"), (0, u "vertexCount"), (0, u "()I"), (0, .methodref 21 27), (0, .nameAndType 28 25), (0, u "edgeCount"), (0, .methodref 30 31), (0, .class_ 32), (0, .nameAndType 33 34), (0, u "com/example/cyclecut/cyclecut/graph/GraphBuilderBuildPinLaw"), (0, u "inc"), (0, u "([I[IIIIII)I"), (0, .methodref 21 36), (0, .nameAndType 37 38), (0, u "degree"), (0, u "(I)I"), (0, .methodref 21 40), (0, .nameAndType 41 15), (0, u "neighbor"), (0, .methodref 21 43), (0, .nameAndType 44 15), (0, u "incidentEdge"), (0, .methodref 21 46), (0, .nameAndType 47 38), (0, u "firstEnd"), (0, .methodref 21 49), (0, .nameAndType 50 38), (0, u "secondEnd"), (3, u "law"), (0, u "(IIIII)Z")] 6

def k1m0 : Method := { name := "<init>", desc := "()V", sig := { parameters := [], returnType := none }, accessFlags := 1, code := none }
def k1c1 : Code := { maxStack := 3, maxLocals := 8, code := method_2_code, exceptionTable := #[], attributes := #[] }
def k1m1 : Method := { name := "inc", desc := "([I[IIIIII)I", sig := { parameters := [(.array .int), (.array .int), .int, .int, .int, .int, .int], returnType := some .int }, accessFlags := 10, code := some k1c1 }
def k1c2 : Code := { maxStack := 7, maxLocals := 22, code := code, exceptionTable := #[], attributes := #[] }
def k1m2 : Method := { name := "law", desc := "(IIIII)Z", sig := { parameters := [.int, .int, .int, .int, .int], returnType := some .boolean }, accessFlags := 9, code := some k1c2 }
/-- com/example/cyclecut/cyclecut/graph/GraphBuilderBuildPinLaw -/
def k1 : Class := { plain "com/example/cyclecut/cyclecut/graph/GraphBuilderBuildPinLaw" (some 0) with
  accessFlags := 49
  interfaces := #[]
  cf := some (fileOf pool1 30 #[] #[{ accessFlags := 1, nameIndex := 5, descriptorIndex := 6, attributes := #[] }, { accessFlags := 10, nameIndex := 33, descriptorIndex := 34, attributes := #[] }, { accessFlags := 9, nameIndex := 54, descriptorIndex := 55, attributes := #[] }] 49 2 #[] #[])
  fields := #[]
  methods := #[k1m0, k1m1, k1m2]
  instanceTypes := #[]
  staticTypes := #[]
  resolved := Array.replicate 62 none
  statics := none }

def pool2 : Array CpInfo := pool [(3, .methodref 4 5), (0, .class_ 6), (0, .nameAndType 7 8), (0, u "java/lang/Object"), (0, u "<init>"), (0, u "()V"), (0, .fieldref 10 11), (0, .class_ 12), (0, .nameAndType 13 14), (0, u "com/example/cyclecut/cyclecut/graph/Graph$Builder"), (0, u "ends"), (0, u "[I"), (9, .fieldref 10 25), (0, .nameAndType 26 27), (0, u "vertexCount"), (0, u "I"), (0, .fieldref 10 29), (0, .nameAndType 30 14), (0, u "degree"), (0, .methodref 32 33), (0, .class_ 34), (0, .nameAndType 35 36), (0, u "java/util/Objects"), (0, u "checkIndex"), (0, u "(II)I"), (0, .fieldref 10 38), (0, .nameAndType 39 27), (0, u "edgeCount"), (0, .integer 1073741819), (5, .long 1073741819), (1, .long 2), (7, .methodref 57 58), (0, .class_ 59), (0, .nameAndType 60 61), (0, u "java/util/Arrays"), (0, u "copyOf"), (0, u "([II)[I"), (0, .class_ 63), (0, u "com/example/cyclecut/cyclecut/graph/Graph"), (0, .methodref 65 66), (0, .class_ 14), (0, .nameAndType 67 68), (0, u "clone"), (0, u "()Ljava/lang/Object;"), (0, .methodref 62 70), (0, .nameAndType 7 71), (0, u "(I[I[I)V"), (0, u "MAX_EDGES"), (1, u "(I)V"), (3, u "addEdge"), (1, u "build"), (0, u "()Lcom/example/cyclecut/cyclecut/graph/Graph;")] 19

def k2c0 : Code := { maxStack := 3, maxLocals := 2, code := prog_24_method_1_code, exceptionTable := #[], attributes := #[] }
def k2m0 : Method := { name := "<init>", desc := "(I)V", sig := { parameters := [.int], returnType := none }, accessFlags := 1, code := some k2c0 }
def k2c1 : Code := { maxStack := 9, maxLocals := 3, code := prog_24_method_2_code, exceptionTable := #[], attributes := #[] }
def k2m1 : Method := { name := "addEdge", desc := "(II)I", sig := { parameters := [.int, .int], returnType := some .int }, accessFlags := 1, code := some k2c1 }
def k2c2 : Code := { maxStack := 6, maxLocals := 1, code := prog_24_method_4_code, exceptionTable := #[], attributes := #[] }
def k2m2 : Method := { name := "build", desc := "()Lcom/example/cyclecut/cyclecut/graph/Graph;", sig := { parameters := [], returnType := some (.object "com/example/cyclecut/cyclecut/graph/Graph") }, accessFlags := 1, code := some k2c2 }
/-- com/example/cyclecut/cyclecut/graph/Graph$Builder -/
def k2 : Class := { plain "com/example/cyclecut/cyclecut/graph/Graph$Builder" (some 0) with
  accessFlags := 49
  interfaces := #[]
  cf := some (fileOf pool2 10 #[.nestHost 62] #[{ accessFlags := 1, nameIndex := 7, descriptorIndex := 74, attributes := #[] }, { accessFlags := 1, nameIndex := 78, descriptorIndex := 36, attributes := #[] }, { accessFlags := 1, nameIndex := 80, descriptorIndex := 81, attributes := #[] }] 49 4 #[] #[{ accessFlags := 26, nameIndex := 72, descriptorIndex := 27, attributes := #[] }, { accessFlags := 18, nameIndex := 26, descriptorIndex := 27, attributes := #[] }, { accessFlags := 18, nameIndex := 30, descriptorIndex := 14, attributes := #[] }, { accessFlags := 2, nameIndex := 13, descriptorIndex := 14, attributes := #[] }, { accessFlags := 2, nameIndex := 39, descriptorIndex := 27, attributes := #[] }])
  fields := #[{ name := "MAX_EDGES", type := .int, accessFlags := 26, slot := 0, constantValue := 0 }, { name := "vertexCount", type := .int, accessFlags := 18, slot := 0, constantValue := 0 }, { name := "degree", type := (.array .int), accessFlags := 18, slot := 1, constantValue := 0 }, { name := "ends", type := (.array .int), accessFlags := 2, slot := 2, constantValue := 0 }, { name := "edgeCount", type := .int, accessFlags := 2, slot := 3, constantValue := 0 }]
  methods := #[k2m0, k2m1, k2m2]
  instanceTypes := #[.int, (.array .int), (.array .int), .int]
  staticTypes := #[.int]
  resolved := Array.replicate 101 none
  statics := none }

def pool3 : Array CpInfo := pool [(1, .methodref 2 3), (0, .class_ 4), (0, .nameAndType 5 6), (0, u "java/lang/Object"), (0, u "<init>"), (0, u "()V"), (0, .fieldref 8 9), (0, .class_ 10), (0, .nameAndType 11 12), (0, u "com/example/cyclecut/cyclecut/graph/Graph"), (0, u "vertexCount"), (0, u "I"), (0, .fieldref 8 14), (0, .nameAndType 15 16), (0, u "ends"), (0, u "[I"), (0, .fieldref 8 18), (0, .nameAndType 19 16), (0, u "firstSlot"), (0, .fieldref 8 21), (0, .nameAndType 22 16), (0, u "slotNeighbor"), (0, .fieldref 8 24), (0, .nameAndType 25 16), (0, u "slotEdge"), (0, .methodref 27 28), (0, .class_ 29), (0, .nameAndType 30 31), (0, u "java/util/Arrays"), (0, u "copyOf"), (0, u "([II)[I"), (0, .methodref 8 33), (0, .nameAndType 34 35), (0, u "edgeCount"), (0, u "()I"), (0, .methodref 37 38), (0, .class_ 39), (0, .nameAndType 40 41), (0, u "java/util/Objects"), (0, u "checkIndex"), (0, u "(II)I"), (0, .methodref 8 43), (0, .nameAndType 44 41), (0, u "slot"), (4, .methodref 8 50), (0, .nameAndType 51 52), (0, u "degree"), (0, u "(I)I"), (2, u "neighbor"), (2, u "incidentEdge"), (0, u "LOOP"), (2, u "(I[I[I)V"), (4, u "firstEnd"), (0, u "secondEnd"), (8, .class_ 78), (0, u "com/example/cyclecut/cyclecut/graph/Graph$Builder")] 2

def k3c0 : Code := { maxStack := 5, maxLocals := 7, code := prog_23_method_1_code, exceptionTable := #[], attributes := #[] }
def k3m0 : Method := { name := "<init>", desc := "(I[I[I)V", sig := { parameters := [.int, (.array .int), (.array .int)], returnType := none }, accessFlags := 2, code := some k3c0 }
def k3c1 : Code := { maxStack := 1, maxLocals := 1, code := prog_23_method_2_code, exceptionTable := #[], attributes := #[] }
def k3m1 : Method := { name := "vertexCount", desc := "()I", sig := { parameters := [], returnType := some .int }, accessFlags := 1, code := some k3c1 }
def k3c2 : Code := { maxStack := 2, maxLocals := 1, code := prog_23_method_3_code, exceptionTable := #[], attributes := #[] }
def k3m2 : Method := { name := "edgeCount", desc := "()I", sig := { parameters := [], returnType := some .int }, accessFlags := 1, code := some k3c2 }
def k3c3 : Code := { maxStack := 4, maxLocals := 2, code := prog_23_method_4_code, exceptionTable := #[], attributes := #[] }
def k3m3 : Method := { name := "firstEnd", desc := "(I)I", sig := { parameters := [.int], returnType := some .int }, accessFlags := 1, code := some k3c3 }
def k3c4 : Code := { maxStack := 4, maxLocals := 2, code := prog_23_method_5_code, exceptionTable := #[], attributes := #[] }
def k3m4 : Method := { name := "secondEnd", desc := "(I)I", sig := { parameters := [.int], returnType := some .int }, accessFlags := 1, code := some k3c4 }
def k3c5 : Code := { maxStack := 3, maxLocals := 3, code := prog_23_method_6_code, exceptionTable := #[], attributes := #[] }
def k3m5 : Method := { name := "degree", desc := "(I)I", sig := { parameters := [.int], returnType := some .int }, accessFlags := 1, code := some k3c5 }
def k3c6 : Code := { maxStack := 4, maxLocals := 3, code := prog_23_method_7_code, exceptionTable := #[], attributes := #[] }
def k3m6 : Method := { name := "neighbor", desc := "(II)I", sig := { parameters := [.int, .int], returnType := some .int }, accessFlags := 1, code := some k3c6 }
def k3c7 : Code := { maxStack := 4, maxLocals := 3, code := prog_23_method_8_code, exceptionTable := #[], attributes := #[] }
def k3m7 : Method := { name := "incidentEdge", desc := "(II)I", sig := { parameters := [.int, .int], returnType := some .int }, accessFlags := 1, code := some k3c7 }
def k3c8 : Code := { maxStack := 4, maxLocals := 3, code := prog_23_method_14_code, exceptionTable := #[], attributes := #[] }
def k3m8 : Method := { name := "slot", desc := "(II)I", sig := { parameters := [.int, .int], returnType := some .int }, accessFlags := 2, code := some k3c8 }
/-- com/example/cyclecut/cyclecut/graph/Graph -/
def k3 : Class := { plain "com/example/cyclecut/cyclecut/graph/Graph" (some 0) with
  accessFlags := 49
  interfaces := #[]
  cf := some (fileOf pool3 8 #[.nestMembers #[77]] #[{ accessFlags := 2, nameIndex := 5, descriptorIndex := 62, attributes := #[] }, { accessFlags := 1, nameIndex := 11, descriptorIndex := 35, attributes := #[] }, { accessFlags := 1, nameIndex := 34, descriptorIndex := 35, attributes := #[] }, { accessFlags := 1, nameIndex := 67, descriptorIndex := 52, attributes := #[] }, { accessFlags := 1, nameIndex := 68, descriptorIndex := 52, attributes := #[] }, { accessFlags := 1, nameIndex := 51, descriptorIndex := 52, attributes := #[] }, { accessFlags := 1, nameIndex := 55, descriptorIndex := 41, attributes := #[] }, { accessFlags := 1, nameIndex := 58, descriptorIndex := 41, attributes := #[] }, { accessFlags := 2, nameIndex := 44, descriptorIndex := 41, attributes := #[] }] 49 2 #[] #[{ accessFlags := 25, nameIndex := 59, descriptorIndex := 12, attributes := #[] }, { accessFlags := 18, nameIndex := 11, descriptorIndex := 12, attributes := #[] }, { accessFlags := 18, nameIndex := 15, descriptorIndex := 16, attributes := #[] }, { accessFlags := 18, nameIndex := 19, descriptorIndex := 16, attributes := #[] }, { accessFlags := 18, nameIndex := 22, descriptorIndex := 16, attributes := #[] }, { accessFlags := 18, nameIndex := 25, descriptorIndex := 16, attributes := #[] }])
  fields := #[{ name := "LOOP", type := .int, accessFlags := 25, slot := 0, constantValue := 0 }, { name := "vertexCount", type := .int, accessFlags := 18, slot := 0, constantValue := 0 }, { name := "ends", type := (.array .int), accessFlags := 18, slot := 1, constantValue := 0 }, { name := "firstSlot", type := (.array .int), accessFlags := 18, slot := 2, constantValue := 0 }, { name := "slotNeighbor", type := (.array .int), accessFlags := 18, slot := 3, constantValue := 0 }, { name := "slotEdge", type := (.array .int), accessFlags := 18, slot := 4, constantValue := 0 }]
  methods := #[k3m0, k3m1, k3m2, k3m3, k3m4, k3m5, k3m6, k3m7, k3m8]
  instanceTypes := #[.int, (.array .int), (.array .int), (.array .int), (.array .int)]
  staticTypes := #[.int]
  resolved := Array.replicate 81 none
  statics := none }

def pool4 : Array CpInfo := pool [(2, .class_ 4), (1, u "java/lang/Object"), (0, u "<init>"), (0, u "()V"), (7, .class_ 16), (1, u "java/util/Arrays"), (57, .class_ 76), (1, u "java/util/Arrays$NaturalOrder"), (36, .class_ 115), (1, u "java/util/Arrays$LegacyMergeSort"), (1, u "Z"), (32, .methodref 151 152), (0, .class_ 153), (0, .nameAndType 154 155), (0, u "java/lang/System"), (0, u "arraycopy"), (0, u "(Ljava/lang/Object;ILjava/lang/Object;II)V"), (146, u "copyOf"), (1, .methodref 305 306), (0, .class_ 307), (0, .nameAndType 308 309), (0, u "java/lang/Math"), (0, u "min"), (0, u "(II)I"), (65, .class_ 376), (0, u "java/util/Arrays$ArrayList"), (68, u "$assertionsDisabled"), (269, u "MIN_ARRAY_SORT_GRAN"), (0, u "I"), (2, u "INSERTIONSORT_THRESHOLD"), (151, u "([II)[I"), (103, .class_ 976), (0, u "java/util/Arrays$ArrayItr")] 52

def k4m0 : Method := { name := "<init>", desc := "()V", sig := { parameters := [], returnType := none }, accessFlags := 2, code := none }
def k4c1 : Code := { maxStack := 6, maxLocals := 3, code := jdk_65_method_123_code, exceptionTable := #[], attributes := #[] }
def k4m1 : Method := { name := "copyOf", desc := "([II)[I", sig := { parameters := [(.array .int), .int], returnType := some (.array .int) }, accessFlags := 9, code := some k4c1 }
/-- java/util/Arrays -/
def k4 : Class := { plain "java/util/Arrays" (some 0) with
  accessFlags := 49
  interfaces := #[]
  cf := some (fileOf pool4 14 #[.nestMembers #[975, 375, 113, 74]] #[{ accessFlags := 2, nameIndex := 5, descriptorIndex := 6, attributes := #[] }, { accessFlags := 9, nameIndex := 302, descriptorIndex := 871, attributes := #[] }] 49 2 #[] #[{ accessFlags := 26, nameIndex := 715, descriptorIndex := 716, attributes := #[] }, { accessFlags := 26, nameIndex := 719, descriptorIndex := 716, attributes := #[] }, { accessFlags := 4120, nameIndex := 445, descriptorIndex := 117, attributes := #[] }])
  fields := #[{ name := "MIN_ARRAY_SORT_GRAN", type := .int, accessFlags := 26, slot := 0, constantValue := 0 }, { name := "INSERTIONSORT_THRESHOLD", type := .int, accessFlags := 26, slot := 1, constantValue := 0 }, { name := "$assertionsDisabled", type := .boolean, accessFlags := 4120, slot := 2, constantValue := 0 }]
  methods := #[k4m0, k4m1]
  instanceTypes := #[]
  staticTypes := #[.int, .int, .boolean]
  resolved := Array.replicate 1029 none
  statics := none }

def pool5 : Array CpInfo := pool [(1, .class_ 2), (0, u "java/lang/Math"), (1, .class_ 6), (1, u "java/lang/Object"), (0, u "<init>"), (0, u "()V"), (89, .class_ 100), (1, u "java/lang/Math$RandomNumberGeneratorHolder"), (71, u "negativeZeroFloatBits"), (0, u "J"), (2, u "negativeZeroDoubleBits"), (24, u "min"), (43, u "$assertionsDisabled"), (0, u "Z"), (88, u "(II)I"), (2, u "twoToTheDoubleScaleDown"), (0, u "D"), (4, u "twoToTheDoubleScaleUp"), (9, u "E"), (3, u "PI"), (2, u "TAU"), (2, u "DEGREES_TO_RADIANS"), (0, u "RADIANS_TO_DEGREES")] 94

def k5m0 : Method := { name := "<init>", desc := "()V", sig := { parameters := [], returnType := none }, accessFlags := 2, code := none }
def k5c1 : Code := { maxStack := 2, maxLocals := 2, code := jdk_29_method_69_code, exceptionTable := #[], attributes := #[] }
def k5m1 : Method := { name := "min", desc := "(II)I", sig := { parameters := [.int, .int], returnType := some .int }, accessFlags := 9, code := some k5c1 }
/-- java/lang/Math -/
def k5 : Class := { plain "java/lang/Math" (some 0) with
  accessFlags := 49
  interfaces := #[]
  cf := some (fileOf pool5 1 #[.nestMembers #[98]] #[{ accessFlags := 2, nameIndex := 7, descriptorIndex := 8, attributes := #[] }, { accessFlags := 9, nameIndex := 201, descriptorIndex := 335, attributes := #[] }] 49 4 #[] #[{ accessFlags := 25, nameIndex := 354, descriptorIndex := 339, attributes := #[] }, { accessFlags := 25, nameIndex := 358, descriptorIndex := 339, attributes := #[] }, { accessFlags := 25, nameIndex := 361, descriptorIndex := 339, attributes := #[] }, { accessFlags := 26, nameIndex := 364, descriptorIndex := 339, attributes := #[] }, { accessFlags := 26, nameIndex := 365, descriptorIndex := 339, attributes := #[] }, { accessFlags := 26, nameIndex := 172, descriptorIndex := 173, attributes := #[] }, { accessFlags := 26, nameIndex := 176, descriptorIndex := 173, attributes := #[] }, { accessFlags := 8, nameIndex := 344, descriptorIndex := 339, attributes := #[] }, { accessFlags := 8, nameIndex := 338, descriptorIndex := 339, attributes := #[] }, { accessFlags := 4120, nameIndex := 245, descriptorIndex := 246, attributes := #[] }])
  fields := #[{ name := "E", type := .double, accessFlags := 25, slot := 0, constantValue := 0 }, { name := "PI", type := .double, accessFlags := 25, slot := 1, constantValue := 0 }, { name := "TAU", type := .double, accessFlags := 25, slot := 2, constantValue := 0 }, { name := "DEGREES_TO_RADIANS", type := .double, accessFlags := 26, slot := 3, constantValue := 0 }, { name := "RADIANS_TO_DEGREES", type := .double, accessFlags := 26, slot := 4, constantValue := 0 }, { name := "negativeZeroFloatBits", type := .long, accessFlags := 26, slot := 5, constantValue := 0 }, { name := "negativeZeroDoubleBits", type := .long, accessFlags := 26, slot := 6, constantValue := 0 }, { name := "twoToTheDoubleScaleUp", type := .double, accessFlags := 8, slot := 7, constantValue := 0 }, { name := "twoToTheDoubleScaleDown", type := .double, accessFlags := 8, slot := 8, constantValue := 0 }, { name := "$assertionsDisabled", type := .boolean, accessFlags := 4120, slot := 9, constantValue := 0 }]
  methods := #[k5m0, k5m1]
  instanceTypes := #[]
  staticTypes := #[.double, .double, .double, .double, .double, .long, .long, .double, .double, .boolean]
  resolved := Array.replicate 460 none
  statics := none }

def pool6 : Array CpInfo := pool [(2, .class_ 4), (1, u "java/lang/Object"), (0, u "<init>"), (0, u "()V"), (1, .class_ 10), (1, u "java/lang/System"), (0, u "allowSecurityManager"), (0, u "I"), (16, u "cons"), (0, u "Ljava/io/Console;"), (77, .class_ 110), (1, u "java/lang/System$CallersHolder"), (43, u "initialErrStream"), (0, u "Ljava/io/PrintStream;"), (19, u "security"), (0, u "Ljava/lang/SecurityManager;"), (31, .class_ 209), (0, u "java/lang/System$1"), (7, u "props"), (0, u "Ljava/util/Properties;"), (2, u "lineSeparator"), (0, u "Ljava/lang/String;"), (96, .class_ 321), (1, u "java/lang/System$LoggerFinder"), (5, .class_ 328), (0, u "java/lang/System$Logger"), (67, u "err"), (2, u "out"), (91, u "notSupportedJnuEncoding"), (15, u "in"), (17, u "initialIn"), (0, u "Ljava/io/InputStream;"), (35, u "bootLayer"), (0, u "Ljava/lang/ModuleLayer;"), (99, .class_ 664), (0, u "java/lang/System$2"), (9, u "NEVER"), (2, u "MAYBE"), (49, u "arraycopy"), (0, u "(Ljava/lang/Object;ILjava/lang/Object;II)V"), (72, .class_ 802), (0, u "java/lang/System$Logger$Level")] 31

def k6m0 : Method := { name := "<init>", desc := "()V", sig := { parameters := [], returnType := none }, accessFlags := 2, code := none }
def k6m1 : Method := { name := "arraycopy", desc := "(Ljava/lang/Object;ILjava/lang/Object;II)V", sig := { parameters := [(.object "java/lang/Object"), .int, (.object "java/lang/Object"), .int, .int], returnType := none }, accessFlags := 265, code := none }
/-- java/lang/System -/
def k6 : Class := { plain "java/lang/System" (some 0) with
  accessFlags := 49
  interfaces := #[]
  cf := some (fileOf pool6 8 #[.nestMembers #[319, 327, 801, 108, 663, 208]] #[{ accessFlags := 2, nameIndex := 5, descriptorIndex := 6, attributes := #[] }, { accessFlags := 265, nameIndex := 727, descriptorIndex := 728, attributes := #[] }] 49 2 #[] #[{ accessFlags := 25, nameIndex := 507, descriptorIndex := 526, attributes := #[] }, { accessFlags := 25, nameIndex := 399, descriptorIndex := 155, attributes := #[] }, { accessFlags := 25, nameIndex := 396, descriptorIndex := 155, attributes := #[] }, { accessFlags := 10, nameIndex := 525, descriptorIndex := 526, attributes := #[] }, { accessFlags := 26, nameIndex := 674, descriptorIndex := 12, attributes := #[] }, { accessFlags := 26, nameIndex := 677, descriptorIndex := 12, attributes := #[] }, { accessFlags := 10, nameIndex := 11, descriptorIndex := 12, attributes := #[] }, { accessFlags := 74, nameIndex := 175, descriptorIndex := 176, attributes := #[] }, { accessFlags := 10, nameIndex := 491, descriptorIndex := 222, attributes := #[] }, { accessFlags := 74, nameIndex := 29, descriptorIndex := 30, attributes := #[] }, { accessFlags := 74, nameIndex := 154, descriptorIndex := 155, attributes := #[] }, { accessFlags := 10, nameIndex := 217, descriptorIndex := 218, attributes := #[] }, { accessFlags := 10, nameIndex := 221, descriptorIndex := 222, attributes := #[] }, { accessFlags := 8, nameIndex := 562, descriptorIndex := 563, attributes := #[] }])
  fields := #[{ name := "in", type := (.object "java/io/InputStream"), accessFlags := 25, slot := 0, constantValue := 0 }, { name := "out", type := (.object "java/io/PrintStream"), accessFlags := 25, slot := 1, constantValue := 0 }, { name := "err", type := (.object "java/io/PrintStream"), accessFlags := 25, slot := 2, constantValue := 0 }, { name := "initialIn", type := (.object "java/io/InputStream"), accessFlags := 10, slot := 3, constantValue := 0 }, { name := "NEVER", type := .int, accessFlags := 26, slot := 4, constantValue := 0 }, { name := "MAYBE", type := .int, accessFlags := 26, slot := 5, constantValue := 0 }, { name := "allowSecurityManager", type := .int, accessFlags := 10, slot := 6, constantValue := 0 }, { name := "security", type := (.object "java/lang/SecurityManager"), accessFlags := 74, slot := 7, constantValue := 0 }, { name := "notSupportedJnuEncoding", type := (.object "java/lang/String"), accessFlags := 10, slot := 8, constantValue := 0 }, { name := "cons", type := (.object "java/io/Console"), accessFlags := 74, slot := 9, constantValue := 0 }, { name := "initialErrStream", type := (.object "java/io/PrintStream"), accessFlags := 74, slot := 10, constantValue := 0 }, { name := "props", type := (.object "java/util/Properties"), accessFlags := 10, slot := 11, constantValue := 0 }, { name := "lineSeparator", type := (.object "java/lang/String"), accessFlags := 10, slot := 12, constantValue := 0 }, { name := "bootLayer", type := (.object "java/lang/ModuleLayer"), accessFlags := 8, slot := 13, constantValue := 0 }]
  methods := #[k6m0, k6m1]
  instanceTypes := #[]
  staticTypes := #[(.object "java/io/InputStream"), (.object "java/io/PrintStream"), (.object "java/io/PrintStream"), (.object "java/io/InputStream"), .int, .int, .int, (.object "java/lang/SecurityManager"), (.object "java/lang/String"), (.object "java/io/Console"), (.object "java/io/PrintStream"), (.object "java/util/Properties"), (.object "java/lang/String"), (.object "java/lang/ModuleLayer")]
  resolved := Array.replicate 834 none
  statics := none }

def pool7 : Array CpInfo := pool [(1, .class_ 2), (0, u "java/lang/Cloneable"), (0, .class_ 4), (0, u "java/lang/Object")] 2

/-- java/lang/Cloneable -/
def k7 : Class := { plain "java/lang/Cloneable" (some 0) with
  accessFlags := 1537
  interfaces := #[]
  cf := some (fileOf pool7 1 #[] #[] 1537 3 #[] #[])
  fields := #[]
  methods := #[]
  instanceTypes := #[]
  staticTypes := #[]
  resolved := Array.replicate 7 none
  statics := none }

def pool8 : Array CpInfo := pool [(2, .class_ 4), (1, u "java/lang/Object"), (0, u "<init>"), (0, u "()V"), (35, .class_ 44), (1, u "java/util/Objects"), (60, .methodref 106 107), (0, .class_ 108), (0, .nameAndType 109 110), (0, u "jdk/internal/util/Preconditions"), (0, u "checkIndex"), (0, u "(IILjava/util/function/BiFunction;)I"), (60, u "(II)I")] 12

def k8m0 : Method := { name := "<init>", desc := "()V", sig := { parameters := [], returnType := none }, accessFlags := 2, code := none }
def k8c1 : Code := { maxStack := 3, maxLocals := 2, code := jdk_31_method_17_code, exceptionTable := #[], attributes := #[] }
def k8m1 : Method := { name := "checkIndex", desc := "(II)I", sig := { parameters := [.int, .int], returnType := some .int }, accessFlags := 9, code := some k8c1 }
/-- java/util/Objects -/
def k8 : Class := { plain "java/util/Objects" (some 0) with
  accessFlags := 49
  interfaces := #[]
  cf := some (fileOf pool8 42 #[] #[{ accessFlags := 2, nameIndex := 5, descriptorIndex := 6, attributes := #[] }, { accessFlags := 9, nameIndex := 109, descriptorIndex := 171, attributes := #[] }] 49 2 #[] #[])
  fields := #[]
  methods := #[k8m0, k8m1]
  instanceTypes := #[]
  staticTypes := #[]
  resolved := Array.replicate 184 none
  statics := none }

def pool9 : Array CpInfo := pool [(2, .class_ 4), (1, u "java/lang/Object"), (0, u "<init>"), (0, u "()V"), (17, .class_ 26), (1, u "jdk/internal/util/Preconditions"), (6, u "checkIndex"), (21, .class_ 56), (0, u "jdk/internal/util/Preconditions$4"), (57, .class_ 115), (0, u "jdk/internal/util/Preconditions$1"), (7, u "SIOOBE_FORMATTER"), (0, u "Ljava/util/function/BiFunction;"), (0, .class_ 126), (0, u "jdk/internal/util/Preconditions$2"), (3, u "AIOOBE_FORMATTER"), (0, .class_ 132), (0, u "jdk/internal/util/Preconditions$3"), (3, u "IOOBE_FORMATTER"), (41, u "(IILjava/util/function/BiFunction;)I")] 15

def k9m0 : Method := { name := "<init>", desc := "()V", sig := { parameters := [], returnType := none }, accessFlags := 1, code := none }
def k9c1 : Code := { maxStack := 3, maxLocals := 3, code := jdk_41_method_11_code, exceptionTable := #[], attributes := #[] }
def k9m1 : Method := { name := "checkIndex", desc := "(IILjava/util/function/BiFunction;)I", sig := { parameters := [.int, .int, (.object "java/util/function/BiFunction")], returnType := some .int }, accessFlags := 9, code := some k9c1 }
/-- jdk/internal/util/Preconditions -/
def k9 : Class := { plain "jdk/internal/util/Preconditions" (some 0) with
  accessFlags := 33
  interfaces := #[]
  cf := some (fileOf pool9 24 #[.nestMembers #[55, 131, 125, 114]] #[{ accessFlags := 1, nameIndex := 5, descriptorIndex := 6, attributes := #[] }, { accessFlags := 9, nameIndex := 33, descriptorIndex := 178, attributes := #[] }] 33 2 #[] #[{ accessFlags := 25, nameIndex := 123, descriptorIndex := 124, attributes := #[] }, { accessFlags := 25, nameIndex := 130, descriptorIndex := 124, attributes := #[] }, { accessFlags := 25, nameIndex := 136, descriptorIndex := 124, attributes := #[] }])
  fields := #[{ name := "SIOOBE_FORMATTER", type := (.object "java/util/function/BiFunction"), accessFlags := 25, slot := 0, constantValue := 0 }, { name := "AIOOBE_FORMATTER", type := (.object "java/util/function/BiFunction"), accessFlags := 25, slot := 1, constantValue := 0 }, { name := "IOOBE_FORMATTER", type := (.object "java/util/function/BiFunction"), accessFlags := 25, slot := 2, constantValue := 0 }]
  methods := #[k9m0, k9m1]
  instanceTypes := #[]
  staticTypes := #[(.object "java/util/function/BiFunction"), (.object "java/util/function/BiFunction"), (.object "java/util/function/BiFunction")]
  resolved := Array.replicate 194 none
  statics := none }

def pool10 : Array CpInfo := pool [(1, u "java/io/Serializable"), (0, .class_ 1), (0, u "java/lang/Object"), (0, .class_ 3)] 3

/-- java/io/Serializable -/
def k10 : Class := { plain "java/io/Serializable" (some 0) with
  accessFlags := 1537
  interfaces := #[]
  cf := some (fileOf pool10 2 #[] #[] 1537 4 #[] #[])
  fields := #[]
  methods := #[]
  instanceTypes := #[]
  staticTypes := #[]
  resolved := Array.replicate 8 none
  statics := none }

/-- the primitive byte -/
def k11 : Class := { plain "byte" none with kind := .primitive 'B', accessFlags := 0x411 }
/-- [B -/
def k12 : Class := { plain "[B" (some 0) with kind := .array 11 .byte, interfaces := #[7, 10], accessFlags := 1041 }

/-- the primitive int -/
def k13 : Class := { plain "int" none with kind := .primitive 'I', accessFlags := 0x411 }
/-- [I -/
def k14 : Class := { plain "[I" (some 0) with kind := .array 13 .int, interfaces := #[7, 10], accessFlags := 1041 }

def heap : Heap := #[]
def classes : Array Class := #[k0, k1, k2, k3, k4, k5, k6, k7, k8, k9, k10, k11, k12, k13, k14]
def interned : List (Array UInt16 × Addr) := []
def slotsUsed : Nat := 0
def theMethod : MethodId := ⟨1, 2⟩
def args0 : Array Value := #[.int 9, .int 6, .int 7, .int 8, .int 9]
def aboutOver (below : List Frame) : State where
  vm := { classes := classes, interned := interned.toArray }
  heap := heap
  slotsUsed := slotsUsed
  threads := #[{ frames := .invoking theMethod args0 :: below }]
def below0 : List Frame := [.native { method := ⟨0, 0⟩, args := #[] }]
def about1 : State := aboutOver below0
def p0 : Program := .bare "" "" ""
def e0 : Env := launch0.env 0 0 0
theorem w_frames : about1.frames = Frame.invoking theMethod args0 :: below0 := rfl
set_option maxRecDepth 65536 in
theorem w_args : argsFit about1.vm theMethod args0 = true := by decide +kernel
set_option maxRecDepth 65536 in
theorem w_heap : heapFits about1 = true := by decide +kernel
set_option maxRecDepth 65536 in
theorem w_runnable : about1.curStatus? = some .runnable := by decide +kernel
set_option maxRecDepth 65536 in
theorem w_alone : about1.alone = true := by decide +kernel
set_option maxRecDepth 65536 in
theorem w_named : about1.methodNamed? x = some theMethod := by decide +kernel
set_option maxRecDepth 65536 in
theorem w_hears : about1.hears theMethod below0 = true := by decide +kernel
set_option maxRecDepth 65536 in
theorem w_ripe : about1.ripe theMethod args0 below0 = true := by decide +kernel
theorem w_running : about1.status = .running := rfl
set_option maxRecDepth 65536 in
theorem w_room : about1.hasRoom e0.platform room_1 = true :=
  launch0.hasRoom_least _ room_1 (by decide +kernel) (by decide +kernel) (by decide +kernel) (by decide +kernel) (by decide +kernel) (by decide +kernel)
theorem allAtoms_all (ts : List Jvm.Cond) (a : Array Jvm.Value) (st : Jvm.State) : (allAtoms ts).before a st = ts.all (fun c => c.before a st) := by
  induction ts with
  | nil => rfl
  | cons c t ih =>
    show (Jvm.Cond.and c (allAtoms t)).before a st = _
    rw [Jvm.Cond.before_and, ih, List.all_cons]
def words1 : List Jvm.Cond := Jvm.Cond.code x code maxLocals ret :: tables_1
/-- a 'code' word, met by the world's own term for the bytes: nothing is compared byte by byte -/
theorem code_word {y : MethodName} {bytes : ByteArray} {mx : Nat} {rt : Option FieldType} {a : Array Value} {s : State} {m : MethodId} {meth : Method} {c : Code} (h1 : s.methodNamed? y = some m) (h2 : s.vm.method? m = some meth) (h3 : meth.code = some c) (h4 : c.code = bytes)
    (h5 : (c.maxLocals == mx && c.exceptionTable.isEmpty && decide (c.maxStack ≤ mostOperands) && decide (meth.sig.returnType = rt) && !meth.locks && decide (parseMethodDescriptor y.desc = some meth.sig)) = true) : (Jvm.Cond.code y bytes mx rt).before a s = true := by
  simp only [Bool.and_eq_true, beq_iff_eq, Bool.not_eq_true', decide_eq_true_eq] at h5
  obtain ⟨⟨⟨⟨⟨g1, g2⟩, g3⟩, g4⟩, g5⟩, g6⟩ := h5
  simp [Cond.before, Cond.holds, Cond.value, h1, h2, h3, h4, g1, g2, g3, g4, g5, g6]
def isCode : Jvm.Cond → Bool
  | .code _ _ _ _ => true
  | _ => false
theorem all_split {L : List Jvm.Cond} {P : Jvm.Cond → Bool} (h1 : L.all (fun c => isCode c || P c) = true) (h2 : ∀ c ∈ L.filter isCode, P c = true) : L.all P = true := by
  refine List.all_eq_true.mpr fun c hc => ?_
  have h := List.all_eq_true.mp h1 c hc
  rcases Bool.eq_false_or_eq_true (isCode c) with hi | hi
  · exact h2 c (List.mem_filter.mpr ⟨hc, hi⟩)
  · simpa [hi] using h
set_option maxRecDepth 65536 in
theorem w_c0 : (Jvm.Cond.code x code maxLocals ret).before args0 about1 = true := code_word (m := ⟨1, 2⟩) (meth := k1m2) (c := k1c2) (by decide +kernel) rfl rfl rfl (by decide +kernel)
set_option maxRecDepth 65536 in
theorem w_c1 : (Jvm.Cond.code ({ cls := "com/example/cyclecut/cyclecut/graph/Graph$Builder", name := "<init>", desc := "(I)V" } : Jvm.MethodName) prog_24_method_1_code (2 : Nat) (Option.none : Option Jvm.ClassFile.FieldType)).before args0 about1 = true := code_word (m := ⟨2, 0⟩) (meth := k2m0) (c := k2c0) (by decide +kernel) rfl rfl rfl (by decide +kernel)
set_option maxRecDepth 65536 in
theorem w_c2 : (Jvm.Cond.code ({ cls := "java/lang/Object", name := "<init>", desc := "()V" } : Jvm.MethodName) object_method_1_code (1 : Nat) (Option.none : Option Jvm.ClassFile.FieldType)).before args0 about1 = true := code_word (m := ⟨0, 0⟩) (meth := k0m0) (c := k0c0) (by decide +kernel) rfl rfl rfl (by decide +kernel)
set_option maxRecDepth 65536 in
theorem w_c3 : (Jvm.Cond.code ({ cls := "com/example/cyclecut/cyclecut/graph/Graph$Builder", name := "build", desc := "()Lcom/example/cyclecut/cyclecut/graph/Graph;" } : Jvm.MethodName) prog_24_method_4_code (1 : Nat) (Option.some (Jvm.ClassFile.FieldType.object "com/example/cyclecut/cyclecut/graph/Graph"))).before args0 about1 = true := code_word (m := ⟨2, 2⟩) (meth := k2m2) (c := k2c2) (by decide +kernel) rfl rfl rfl (by decide +kernel)
set_option maxRecDepth 65536 in
theorem w_c4 : (Jvm.Cond.code ({ cls := "java/util/Arrays", name := "copyOf", desc := "([II)[I" } : Jvm.MethodName) jdk_65_method_123_code (3 : Nat) (Option.some (Jvm.ClassFile.FieldType.array Jvm.ClassFile.FieldType.int))).before args0 about1 = true := code_word (m := ⟨4, 1⟩) (meth := k4m1) (c := k4c1) (by decide +kernel) rfl rfl rfl (by decide +kernel)
set_option maxRecDepth 65536 in
theorem w_c5 : (Jvm.Cond.code ({ cls := "java/lang/Math", name := "min", desc := "(II)I" } : Jvm.MethodName) jdk_29_method_69_code (2 : Nat) (Option.some Jvm.ClassFile.FieldType.int)).before args0 about1 = true := code_word (m := ⟨5, 1⟩) (meth := k5m1) (c := k5c1) (by decide +kernel) rfl rfl rfl (by decide +kernel)
set_option maxRecDepth 65536 in
theorem w_c6 : (Jvm.Cond.code ({ cls := "com/example/cyclecut/cyclecut/graph/Graph", name := "<init>", desc := "(I[I[I)V" } : Jvm.MethodName) prog_23_method_1_code (7 : Nat) (Option.none : Option Jvm.ClassFile.FieldType)).before args0 about1 = true := code_word (m := ⟨3, 0⟩) (meth := k3m0) (c := k3c0) (by decide +kernel) rfl rfl rfl (by decide +kernel)
set_option maxRecDepth 65536 in
theorem w_c7 : (Jvm.Cond.code ({ cls := "com/example/cyclecut/cyclecut/graph/Graph", name := "vertexCount", desc := "()I" } : Jvm.MethodName) prog_23_method_2_code (1 : Nat) (Option.some Jvm.ClassFile.FieldType.int)).before args0 about1 = true := code_word (m := ⟨3, 1⟩) (meth := k3m1) (c := k3c1) (by decide +kernel) rfl rfl rfl (by decide +kernel)
set_option maxRecDepth 65536 in
theorem w_c8 : (Jvm.Cond.code ({ cls := "com/example/cyclecut/cyclecut/graph/Graph", name := "edgeCount", desc := "()I" } : Jvm.MethodName) prog_23_method_3_code (1 : Nat) (Option.some Jvm.ClassFile.FieldType.int)).before args0 about1 = true := code_word (m := ⟨3, 2⟩) (meth := k3m2) (c := k3c2) (by decide +kernel) rfl rfl rfl (by decide +kernel)
set_option maxRecDepth 65536 in
theorem w_c9 : (Jvm.Cond.code ({ cls := "com/example/cyclecut/cyclecut/graph/Graph", name := "degree", desc := "(I)I" } : Jvm.MethodName) prog_23_method_6_code (3 : Nat) (Option.some Jvm.ClassFile.FieldType.int)).before args0 about1 = true := code_word (m := ⟨3, 5⟩) (meth := k3m5) (c := k3c5) (by decide +kernel) rfl rfl rfl (by decide +kernel)
set_option maxRecDepth 65536 in
theorem w_c10 : (Jvm.Cond.code ({ cls := "java/util/Objects", name := "checkIndex", desc := "(II)I" } : Jvm.MethodName) jdk_31_method_17_code (2 : Nat) (Option.some Jvm.ClassFile.FieldType.int)).before args0 about1 = true := code_word (m := ⟨8, 1⟩) (meth := k8m1) (c := k8c1) (by decide +kernel) rfl rfl rfl (by decide +kernel)
set_option maxRecDepth 65536 in
theorem w_c11 : (Jvm.Cond.code ({ cls := "jdk/internal/util/Preconditions", name := "checkIndex", desc := "(IILjava/util/function/BiFunction;)I" } : Jvm.MethodName) jdk_41_method_11_code (3 : Nat) (Option.some Jvm.ClassFile.FieldType.int)).before args0 about1 = true := code_word (m := ⟨9, 1⟩) (meth := k9m1) (c := k9c1) (by decide +kernel) rfl rfl rfl (by decide +kernel)
set_option maxRecDepth 65536 in
theorem w_c12 : (Jvm.Cond.code ({ cls := "com/example/cyclecut/cyclecut/graph/Graph$Builder", name := "addEdge", desc := "(II)I" } : Jvm.MethodName) prog_24_method_2_code (3 : Nat) (Option.some Jvm.ClassFile.FieldType.int)).before args0 about1 = true := code_word (m := ⟨2, 1⟩) (meth := k2m1) (c := k2c1) (by decide +kernel) rfl rfl rfl (by decide +kernel)
set_option maxRecDepth 65536 in
theorem w_c13 : (Jvm.Cond.code ({ cls := "com/example/cyclecut/cyclecut/graph/GraphBuilderBuildPinLaw", name := "inc", desc := "([I[IIIIII)I" } : Jvm.MethodName) method_2_code (8 : Nat) (Option.some Jvm.ClassFile.FieldType.int)).before args0 about1 = true := code_word (m := ⟨1, 1⟩) (meth := k1m1) (c := k1c1) (by decide +kernel) rfl rfl rfl (by decide +kernel)
set_option maxRecDepth 65536 in
theorem w_c14 : (Jvm.Cond.code ({ cls := "com/example/cyclecut/cyclecut/graph/Graph", name := "neighbor", desc := "(II)I" } : Jvm.MethodName) prog_23_method_7_code (3 : Nat) (Option.some Jvm.ClassFile.FieldType.int)).before args0 about1 = true := code_word (m := ⟨3, 6⟩) (meth := k3m6) (c := k3c6) (by decide +kernel) rfl rfl rfl (by decide +kernel)
set_option maxRecDepth 65536 in
theorem w_c15 : (Jvm.Cond.code ({ cls := "com/example/cyclecut/cyclecut/graph/Graph", name := "slot", desc := "(II)I" } : Jvm.MethodName) prog_23_method_14_code (3 : Nat) (Option.some Jvm.ClassFile.FieldType.int)).before args0 about1 = true := code_word (m := ⟨3, 8⟩) (meth := k3m8) (c := k3c8) (by decide +kernel) rfl rfl rfl (by decide +kernel)
set_option maxRecDepth 65536 in
theorem w_c16 : (Jvm.Cond.code ({ cls := "com/example/cyclecut/cyclecut/graph/Graph", name := "incidentEdge", desc := "(II)I" } : Jvm.MethodName) prog_23_method_8_code (3 : Nat) (Option.some Jvm.ClassFile.FieldType.int)).before args0 about1 = true := code_word (m := ⟨3, 7⟩) (meth := k3m7) (c := k3c7) (by decide +kernel) rfl rfl rfl (by decide +kernel)
set_option maxRecDepth 65536 in
theorem w_c17 : (Jvm.Cond.code ({ cls := "com/example/cyclecut/cyclecut/graph/Graph", name := "firstEnd", desc := "(I)I" } : Jvm.MethodName) prog_23_method_4_code (2 : Nat) (Option.some Jvm.ClassFile.FieldType.int)).before args0 about1 = true := code_word (m := ⟨3, 3⟩) (meth := k3m3) (c := k3c3) (by decide +kernel) rfl rfl rfl (by decide +kernel)
set_option maxRecDepth 65536 in
theorem w_c18 : (Jvm.Cond.code ({ cls := "com/example/cyclecut/cyclecut/graph/Graph", name := "secondEnd", desc := "(I)I" } : Jvm.MethodName) prog_23_method_5_code (2 : Nat) (Option.some Jvm.ClassFile.FieldType.int)).before args0 about1 = true := code_word (m := ⟨3, 4⟩) (meth := k3m4) (c := k3c4) (by decide +kernel) rfl rfl rfl (by decide +kernel)
def codes1 : List Jvm.Cond := [Jvm.Cond.code x code maxLocals ret, Jvm.Cond.code ({ cls := "com/example/cyclecut/cyclecut/graph/Graph$Builder", name := "<init>", desc := "(I)V" } : Jvm.MethodName) prog_24_method_1_code (2 : Nat) (Option.none : Option Jvm.ClassFile.FieldType), Jvm.Cond.code ({ cls := "java/lang/Object", name := "<init>", desc := "()V" } : Jvm.MethodName) object_method_1_code (1 : Nat) (Option.none : Option Jvm.ClassFile.FieldType), Jvm.Cond.code ({ cls := "com/example/cyclecut/cyclecut/graph/Graph$Builder", name := "build", desc := "()Lcom/example/cyclecut/cyclecut/graph/Graph;" } : Jvm.MethodName) prog_24_method_4_code (1 : Nat) (Option.some (Jvm.ClassFile.FieldType.object "com/example/cyclecut/cyclecut/graph/Graph")), Jvm.Cond.code ({ cls := "java/util/Arrays", name := "copyOf", desc := "([II)[I" } : Jvm.MethodName) jdk_65_method_123_code (3 : Nat) (Option.some (Jvm.ClassFile.FieldType.array Jvm.ClassFile.FieldType.int)), Jvm.Cond.code ({ cls := "java/lang/Math", name := "min", desc := "(II)I" } : Jvm.MethodName) jdk_29_method_69_code (2 : Nat) (Option.some Jvm.ClassFile.FieldType.int), Jvm.Cond.code ({ cls := "com/example/cyclecut/cyclecut/graph/Graph", name := "<init>", desc := "(I[I[I)V" } : Jvm.MethodName) prog_23_method_1_code (7 : Nat) (Option.none : Option Jvm.ClassFile.FieldType), Jvm.Cond.code ({ cls := "com/example/cyclecut/cyclecut/graph/Graph", name := "vertexCount", desc := "()I" } : Jvm.MethodName) prog_23_method_2_code (1 : Nat) (Option.some Jvm.ClassFile.FieldType.int), Jvm.Cond.code ({ cls := "com/example/cyclecut/cyclecut/graph/Graph", name := "edgeCount", desc := "()I" } : Jvm.MethodName) prog_23_method_3_code (1 : Nat) (Option.some Jvm.ClassFile.FieldType.int), Jvm.Cond.code ({ cls := "com/example/cyclecut/cyclecut/graph/Graph", name := "degree", desc := "(I)I" } : Jvm.MethodName) prog_23_method_6_code (3 : Nat) (Option.some Jvm.ClassFile.FieldType.int), Jvm.Cond.code ({ cls := "java/util/Objects", name := "checkIndex", desc := "(II)I" } : Jvm.MethodName) jdk_31_method_17_code (2 : Nat) (Option.some Jvm.ClassFile.FieldType.int), Jvm.Cond.code ({ cls := "jdk/internal/util/Preconditions", name := "checkIndex", desc := "(IILjava/util/function/BiFunction;)I" } : Jvm.MethodName) jdk_41_method_11_code (3 : Nat) (Option.some Jvm.ClassFile.FieldType.int), Jvm.Cond.code ({ cls := "com/example/cyclecut/cyclecut/graph/Graph$Builder", name := "addEdge", desc := "(II)I" } : Jvm.MethodName) prog_24_method_2_code (3 : Nat) (Option.some Jvm.ClassFile.FieldType.int), Jvm.Cond.code ({ cls := "com/example/cyclecut/cyclecut/graph/GraphBuilderBuildPinLaw", name := "inc", desc := "([I[IIIIII)I" } : Jvm.MethodName) method_2_code (8 : Nat) (Option.some Jvm.ClassFile.FieldType.int), Jvm.Cond.code ({ cls := "com/example/cyclecut/cyclecut/graph/Graph", name := "neighbor", desc := "(II)I" } : Jvm.MethodName) prog_23_method_7_code (3 : Nat) (Option.some Jvm.ClassFile.FieldType.int), Jvm.Cond.code ({ cls := "com/example/cyclecut/cyclecut/graph/Graph", name := "slot", desc := "(II)I" } : Jvm.MethodName) prog_23_method_14_code (3 : Nat) (Option.some Jvm.ClassFile.FieldType.int), Jvm.Cond.code ({ cls := "com/example/cyclecut/cyclecut/graph/Graph", name := "incidentEdge", desc := "(II)I" } : Jvm.MethodName) prog_23_method_8_code (3 : Nat) (Option.some Jvm.ClassFile.FieldType.int), Jvm.Cond.code ({ cls := "com/example/cyclecut/cyclecut/graph/Graph", name := "firstEnd", desc := "(I)I" } : Jvm.MethodName) prog_23_method_4_code (2 : Nat) (Option.some Jvm.ClassFile.FieldType.int), Jvm.Cond.code ({ cls := "com/example/cyclecut/cyclecut/graph/Graph", name := "secondEnd", desc := "(I)I" } : Jvm.MethodName) prog_23_method_5_code (2 : Nat) (Option.some Jvm.ClassFile.FieldType.int)]
set_option maxRecDepth 65536 in
theorem codes_eq : words1.filter isCode = codes1 := rfl
theorem w_codes : ∀ c ∈ words1.filter isCode, c.before args0 about1 = true := by
  rw [codes_eq]
  intro c hc
  simp only [codes1, List.mem_cons, List.not_mem_nil, or_false] at hc
  rcases hc with rfl | rfl | rfl | rfl | rfl | rfl | rfl | rfl | rfl | rfl | rfl | rfl | rfl | rfl | rfl | rfl | rfl | rfl | rfl
  · exact w_c0
  · exact w_c1
  · exact w_c2
  · exact w_c3
  · exact w_c4
  · exact w_c5
  · exact w_c6
  · exact w_c7
  · exact w_c8
  · exact w_c9
  · exact w_c10
  · exact w_c11
  · exact w_c12
  · exact w_c13
  · exact w_c14
  · exact w_c15
  · exact w_c16
  · exact w_c17
  · exact w_c18
set_option maxRecDepth 65536 in
theorem w_t1 : (words1.take 24).all (fun c => isCode c || c.before args0 about1) = true := by decide +kernel
set_option maxRecDepth 65536 in
theorem w_t2 : ((words1.drop 24).take 24).all (fun c => isCode c || c.before args0 about1) = true := by decide +kernel
set_option maxRecDepth 65536 in
theorem w_t3 : (((words1.drop 24).drop 24).take 24).all (fun c => isCode c || c.before args0 about1) = true := by decide +kernel
set_option maxRecDepth 65536 in
theorem w_t4 : ((((words1.drop 24).drop 24).drop 24).take 24).all (fun c => isCode c || c.before args0 about1) = true := by decide +kernel
set_option maxRecDepth 65536 in
theorem w_t5 : (((((words1.drop 24).drop 24).drop 24).drop 24).take 24).all (fun c => isCode c || c.before args0 about1) = true := by decide +kernel
set_option maxRecDepth 65536 in
theorem w_t6 : (((((words1.drop 24).drop 24).drop 24).drop 24).drop 24).all (fun c => isCode c || c.before args0 about1) = true := by decide +kernel
theorem w_tables : (allAtoms (Jvm.Cond.code x code maxLocals ret :: tables_1)).before args0 about1 = true := by
  rw [allAtoms_all]
  show words1.all (fun c => c.before args0 about1) = true
  refine all_split ?_ w_codes
  rw [← List.take_append_drop 24 words1, List.all_append, w_t1, ← List.take_append_drop 24 (words1.drop 24), List.all_append, w_t2, ← List.take_append_drop 24 ((words1.drop 24).drop 24), List.all_append, w_t3, ← List.take_append_drop 24 (((words1.drop 24).drop 24).drop 24), List.all_append, w_t4, ← List.take_append_drop 24 ((((words1.drop 24).drop 24).drop 24).drop 24), List.all_append, w_t5, w_t6]
  rfl
set_option maxRecDepth 65536 in
theorem w_case : (Jvm.Cond.and given_1 narrow_1).before args0 about1 = true := by decide +kernel
theorem w_applies : (headSpec (Jvm.Cond.code x code maxLocals ret :: tables_1) room_1).applies x e0.platform about1 = true :=
  (Spec.applies_iff w_frames).mpr ⟨w_running, w_runnable, w_alone, w_named, w_hears, w_ripe, w_room, w_tables⟩
theorem atStart : AtStart classFile x code maxLocals ret World_1 tables_1 room_1 Calls_1 rest_1 Pre_1 launch0 p0 e0 about1 theMethod args0 below0 :=
  ⟨lists_1, trivial, launch0.admits_env _ _ _, launch0.least_env, fairChoices_fair.cas, fairChoices_fair.clock, w_frames, w_args, w_heap, w_applies, trivial, trivial, w_case⟩
end start1
theorem witness_1 : WitnessClaimed_1 := ⟨start1.p0, start1.e0, start1.about1, start1.theMethod, start1.args0, start1.below0, start1.atStart⟩
end Jvm.Pilot.@@N@@
