import JvmDerived
import JvmDerived.Pilot.@@N@@Statement
import JvmDerived.Pilot.@@N@@Code
set_option linter.unusedVariables false
set_option linter.unusedSimpArgs false
namespace Jvm.RoadKit
open Sem ClassFile Op Lib Jvm.Stand Jvm.Free Jvm.LawKit
section New
variable {p : Program} {l : Launch} {e : Env} {R : Room} {s : State} {m : MethodId} {args : Array Value} {below : List Frame} {meth : Method} {c : Code} {T : State} {locs : List Loc} {cells slots : Nat}
theorem retI (X : Stand p l e R s m args below meth c T locs cells slots) (hx : p.tables.exec = Jvm.exec) {pc : Nat} {Ls : Array Slot} {z : Int32} {rest : List Value} (hret : meth.sig.returnType = some .int) (hd : decode c.code pc = .ok (.ireturn, 1)) {fs : List Frame}
    (hl : ∀ (f : JFrame) (acts : List Action), f.method = m → f.locked = none → f.entered = [] → (doReturn e (T.setTop f) acts (some (.int z))).1 = T.setFrames fs) : Steps p.tables e below (T.setTop (mkF m pc Ls (.int z :: rest))) (T.setFrames fs) := by
  have hm' : T.vm.method? m = some meth := X.method'
  have hn : narrow .int (.int z) = .int z := rfl
  show Steps p.tables e below (T.setTop { method := m, pc := pc, locals := Ls, stack := _ :: rest, locked := none }) _
  jvm_step X.here [X.here.top, hx, hd, hm', hret, hn]
  first | (intro acts; rw [hl _ acts rfl rfl rfl]) | rw [hl _ _ rfl rfl rfl]
  exact Steps.refl _
end New
end Jvm.RoadKit
namespace Jvm.Pilot.@@N@@
open Jvm Jvm.ClassFile Sem Op Lib Jvm.Free Jvm.Stand Jvm.LawKit Jvm.RoadKit Bundle Jvm.Pilot.@@N@@.Jvm.D
/-! my own layer: all goals of a walk have one shape -/
section Own
variable {p : Program} {l : Launch} {e : Env} {R : Room} {s : State} {m : MethodId} {args : Array Value} {below : List Frame} {meth : Method} {c : Code} {T : State} {locs : List Loc} {cells slots : Nat} {Q : Option Value → Heap → List Loc → Prop} {nc ns : Nat} {A B : State}
/-- from A the method comes to its end, with Q of what it returns, of the heap and of the places written -/
def own_Go (p : Program) (e : Env) (below : List Frame) (s : State) (Q : Option Value → Heap → List Loc → Prop) (nc ns : Nat) (A : State) : Prop :=
  ∃ s₂ o, Steps p.tables e below A s₂ ∧ s₂.status = .running ∧ Ended s₂ below o ∧ ∃ v L, o = .returned v ∧ Q v s₂.heap L ∧ FrameEnd s o s₂ L nc ns
theorem own_go (k : ∀ t, Steps p.tables e below B t → Steps p.tables e below A t) (h : own_Go p e below s Q nc ns B) : own_Go p e below s Q nc ns A := by
  obtain ⟨t, o, h1, h2⟩ := h
  exact ⟨t, o, k t h1, h2⟩
theorem own_end (X : Stand p l e R s m args below meth c T locs cells slots) {v : Option Value} (hv : meth.sig.returnType = none → v = none) (hlk : meth.locks = false) (hq : Q v T.heap locs) (hc : cells ≤ nc) (hs : slots ≤ ns)
    (hst : ∀ fs, (∀ (f : JFrame) (acts : List Action), f.method = m → f.locked = none → f.entered = [] → (doReturn e (T.setTop f) acts v).1 = T.setFrames fs) → Steps p.tables e below A (T.setFrames fs)) : own_Go p e below s Q nc ns A := by
  obtain ⟨fs, hr, hrun, hended, hW, hsame⟩ := X.leave (v := v) hv hlk
  exact ⟨_, _, hst fs hr, hrun, hended, v, locs, rfl, hq, ⟨_, rfl⟩, hW, hsame.mono hc hs⟩
theorem own_wide {cells' slots' : Nat} (X : Stand p l e R s m args below meth c T locs cells slots) (hc : cells ≤ cells') (hs : slots ≤ slots') : Stand p l e R s m args below meth c T locs cells' slots' :=
  { X with same := X.same.mono hc hs }
theorem own_lrem {tb : Tables} [Ours tb] {target : State} {g : JFrame} (h : At T m c below) (hx : tb.exec = Jvm.exec) (hg : g.method = m) {x y : Int64} {rest : List Value} (hd : decode c.code g.pc = .ok (.lrem, 1)) (hs : g.stack = .long y :: .long x :: rest) (hy : y ≠ 0)
    (hr : Steps tb e below (T.setTop { g with pc := g.pc + 1, stack := .long (x % y) :: rest }) target) : Steps tb e below (T.setTop g) target :=
  XS.lrem h hx hg hd hs hy (by rw [lrem_mod]; exact hr)
end Own
section Own2
variable {Z s : State} {a0 args : Array Value} {h : Heap} {a b : Addr} {C : String} {c : Cell} {ty : FieldType}
theorem own_selP {y : MethodName} {n : Nat} (hZ : Z.Warmed39 s.vm) (wi : (Jvm.Cond.instantiable y.cls n).before a0 Z = true) (w2 : (Jvm.Cond.instanceMethod y).before a0 Z = true) (w3 : (Jvm.Cond.privateMethod y).before a0 Z = true)
    (hy : y.cls ≠ "java/lang/invoke/MethodHandle" ∧ y.cls ≠ "java/lang/invoke/VarHandle" := by decide) : (Jvm.Cond.selects y.cls y y).before args s = true := by
  have wi' : (Jvm.Cond.instantiable y.cls n).before args s = true := mvT hZ wi
  obtain ⟨c, k, h1, h2, -, h4, -⟩ := Cond.instantiable_spec wi'
  have h5 : k.isInterface = false := by
    cases hk : k.isInterface
    · rfl
    · rw [hk] at h4; simp at h4
  exact selects_self_of_private h1 h2 h5 (Cond.privateMethod_at (mvP hZ w3 (args := #[]))) (mvT hZ w2) hy
theorem own_neA {n : Nat} (F : Exa Z h a C) (wi : (Jvm.Cond.instantiable C n).before a0 Z = true) (G : ∃ c, Arr Z h b c ty) : a ≠ b := by
  obtain ⟨c, G⟩ := G
  exact ne_arr F wi G
end Own2
/-! small naturals as ints -/
theorem own_toI {n : Nat} (h : n < 2147483648) : (Int32.ofNat n).toInt = n := Int32.toInt_ofNat_of_lt h
theorem own_toN {n : Nat} (h : n < 2147483648) : (Int32.ofNat n).toNatClampNeg = n := by
  rw [Int32.toNatClampNeg, own_toI h]; omega
theorem own_one {i : Nat} : Int32.ofNat i + (1 : Int32) = Int32.ofNat (i + 1) := (Int32.ofNat_add i 1).symm
theorem own_inb {j : Int32} {n : Nat} (h0 : ¬ j < 0) (h : j < Int32.ofNat n) (hn : n < 2147483648) : ¬ j < 0 ∧ j.toNatClampNeg < n := by
  refine ⟨h0, ?_⟩
  rw [Int32.lt_iff_toInt_lt, own_toI hn] at h
  rw [Int32.lt_iff_toInt_lt] at h0
  have e0 : (0 : Int32).toInt = 0 := rfl
  rw [Int32.toNatClampNeg]; omega
theorem own_inN {i n : Nat} (h : i < n) (hn : n < 2147483648) : ¬ Int32.ofNat i < 0 ∧ (Int32.ofNat i).toNatClampNeg < n := by
  rw [own_toN (by omega), Int32.lt_iff_toInt_lt, own_toI (by omega)]
  have e0 : (0 : Int32).toInt = 0 := rfl
  omega
theorem own_ofNat_lt {i n : Nat} (h : Int32.ofNat i < Int32.ofNat n) (hn : n < 2147483648) (hi : i ≤ n) : i < n := by
  rw [Int32.lt_iff_toInt_lt, own_toI hn, own_toI (by omega)] at h; omega
theorem own_ofNat_nlt {i n : Nat} (h : ¬ Int32.ofNat i < Int32.ofNat n) (hn : n < 2147483648) (hi : i ≤ n) : n ≤ i := by
  rw [Int32.lt_iff_toInt_lt, own_toI hn, own_toI (by omega)] at h; omega
theorem own_drop (vs : List Int32) {i : Nat} (h : i < vs.length) : vs.drop i = vs.getD i 0 :: vs.drop (i + 1) := by
  rw [List.drop_eq_getElem_cons h, List.getD_eq_getElem?_getD, List.getElem?_eq_getElem h]; rfl
theorem own_ofNat_inj {i n : Nat} (h : Int32.ofNat i = Int32.ofNat n) (hn : n < 2147483648) (hi : i ≤ n) : i = n := by
  have q := congrArg Int32.toInt h
  rw [own_toI hn, own_toI (by omega)] at q; omega

/-! arrays as lists -/
section OwnIA
variable {p : Program} {l : Launch} {e : Env} {R : Room} {s : State} {m : MethodId} {args : Array Value} {below : List Frame} {meth : Method} {c : Code} {T : State} {locs : List Loc} {cells slots : Nat} {Z : State} {a0 : Array Value} {h h' : Heap} {a b : Addr} {ws : List Addr} {sl : Nat} {v : Value} {vs : List Int32}
def own_IA (Z : State) (h : Heap) (a : Addr) (vs : List Int32) : Prop := ∃ c : Cell, Arr Z h a c .int ∧ c.slots.toList = vs.map Value.int ∧ vs.length < 2147483648
theorem own_IA.lt (F : own_IA Z h a vs) : a < h.size := by obtain ⟨c, A, -⟩ := F; exact A.lt
theorem own_IA.arr (F : own_IA Z h a vs) : ∃ c, Arr Z h a c .int := by obtain ⟨c, A, -⟩ := F; exact ⟨c, A⟩
theorem own_IA.ext (F : own_IA Z h a vs) (E : Ext h h') : own_IA Z h' a vs := by obtain ⟨c, A, r⟩ := F; exact ⟨c, A.ext E, r⟩
theorem own_IA.other (F : own_IA Z h b vs) (W : Wr h h' a sl v) (q : b ≠ a) : own_IA Z h' b vs := by obtain ⟨c, A, r⟩ := F; exact ⟨c, A.other W q, r⟩
theorem own_IA.keep (F : own_IA Z h a vs) (K : Keep h h' ws) (q : a ∉ ws) : own_IA Z h' a vs := by obtain ⟨c, A, r⟩ := F; exact ⟨c, ⟨K.2.1 a c A.1 q, A.2⟩, r⟩
theorem own_IA.cong {vs' : List Int32} (F : own_IA Z h a vs) (q : vs = vs') : own_IA Z h a vs' := q ▸ F
theorem own_IA.small (F : own_IA Z h a vs) : vs.length < 2147483648 := by obtain ⟨c, A, q, r⟩ := F; exact r
theorem own_IA.new {k : ClassId} {n : Int32} (A : Arr Z h a (newA k .int n) .int) (q : ¬ n < 0) : own_IA Z h a (List.replicate n.toNatClampNeg 0) := by
  refine ⟨_, A, ?_, ?_⟩
  · simp [newA, defaultValue]
  · rw [List.length_replicate]; exact (back32 q).2
theorem own_IA_in {c : Cell} {j : Int32} (S : c.slots.toList = vs.map Value.int) (hj : ¬ j < 0 ∧ j.toNatClampNeg < vs.length) : ¬ (j < 0 ∨ c.slots.size ≤ j.toNatClampNeg) := by
  have e := congrArg List.length S
  rw [List.length_map, Array.length_toList] at e
  rintro (q | q)
  · exact hj.1 q
  · have := hj.2; omega
/-- the load -/
theorem own_ldIA (X : Stand p l e R s m args below meth c T locs cells slots) (hx : p.tables.exec = Jvm.exec) (hZ : Z.Warmed39 s.vm) (eT : T.heap = h) (A : own_IA Z h a vs) {j : Int32} (hj : ¬ j < 0 ∧ j.toNatClampNeg < vs.length)
    {g : JFrame} (hg : g.method = m) {rest : List Value} (hs : g.stack = .int j :: .ref a :: rest) (hd : decode c.code g.pc = .ok (.iaload, 1)) {target : State}
    (hr : Steps p.tables e below (T.setTop { g with pc := g.pc + 1, stack := Value.int (vs.getD j.toNatClampNeg 0) :: rest }) target) : Steps p.tables e below (T.setTop g) target := by
  obtain ⟨cl, Ar, S, -⟩ := A
  refine X.iaload hx (j := j) (v := Value.int (vs.getD j.toNatClampNeg 0)) (by rw [eT]; exact Ar.1) (State.isArrayOf_alike hZ.alike Ar.2.1) Ar.2.2 (own_IA_in S hj) ?_ (g := g) hg hs hd _ hr
  rw [← Array.getElem?_toList, S, List.getElem?_map, List.getD_eq_getElem?_getD, List.getElem?_eq_getElem hj.2]
  rfl
/-- the length -/
theorem own_lenIA (X : Stand p l e R s m args below meth c T locs cells slots) (hx : p.tables.exec = Jvm.exec) (hZ : Z.Warmed39 s.vm) (eT : T.heap = h) (A : own_IA Z h a vs)
    {g : JFrame} (hg : g.method = m) {rest : List Value} (hs : g.stack = .ref a :: rest) (hd : decode c.code g.pc = .ok (.arraylength, 1)) {target : State}
    (hr : Steps p.tables e below (T.setTop { g with pc := g.pc + 1, stack := .int (Int32.ofNat vs.length) :: rest }) target) : Steps p.tables e below (T.setTop g) target := by
  obtain ⟨cl, Ar, S, -⟩ := A
  refine X.arraylength hx (by rw [eT]; exact Ar.1) (State.isArrayOf_alike hZ.alike Ar.2.1) (g := g) hg hs hd _ ?_
  have e := congrArg List.length S
  rw [List.length_map, Array.length_toList] at e
  rw [e]; exact hr
/-- the store -/
theorem own_stIA (X : Stand p l e R s m args below meth c T locs cells slots) (hx : p.tables.exec = Jvm.exec) (hZ : Z.Warmed39 s.vm) (eT : T.heap = h) (A : own_IA Z h a vs) {j : Int32} {x : Int32} (hj : ¬ j < 0 ∧ j.toNatClampNeg < vs.length)
    {g : JFrame} (hg : g.method = m) {rest : List Value} (hs : g.stack = Value.int x :: .int j :: .ref a :: rest) (hd : decode c.code g.pc = .ok (.iastore, 1)) :
    ∃ T' h', Stand p l e R s m args below meth c T' (locs ++ [⟨a, j.toNatClampNeg⟩]) cells slots ∧ T'.heap = h' ∧ Wr h h' a j.toNatClampNeg (Value.int x) ∧ own_IA Z h' a (vs.set j.toNatClampNeg x) ∧
      ∀ target, Steps p.tables e below (T'.setTop { g with pc := g.pc + 1, stack := rest }) target → Steps p.tables e below (T.setTop g) target := by
  obtain ⟨cl, Ar, S, B⟩ := A
  obtain ⟨T', h', X', e', W', st'⟩ := stI X hx hZ eT Ar (own_IA_in S hj) (g := g) hg hs hd
  refine ⟨T', h', X', e', W', ⟨_, Ar.same W', ?_, ?_⟩, st'⟩
  · simp [Cell.setSlot, S]
  · rw [List.length_set]; exact B
theorem own_ldIAn (X : Stand p l e R s m args below meth c T locs cells slots) (hx : p.tables.exec = Jvm.exec) (hZ : Z.Warmed39 s.vm) (eT : T.heap = h) (A : own_IA Z h a vs) {i : Nat} (hi : i < vs.length)
    {g : JFrame} (hg : g.method = m) {rest : List Value} (hs : g.stack = .int (Int32.ofNat i) :: .ref a :: rest) (hd : decode c.code g.pc = .ok (.iaload, 1)) {target : State}
    (hr : Steps p.tables e below (T.setTop { g with pc := g.pc + 1, stack := Value.int (vs.getD i 0) :: rest }) target) : Steps p.tables e below (T.setTop g) target := by
  have q := A.small
  refine own_ldIA X hx hZ eT A (own_inN hi q) hg hs hd ?_
  rw [own_toN (Nat.lt_trans hi q)]; exact hr
theorem own_stIAn (X : Stand p l e R s m args below meth c T locs cells slots) (hx : p.tables.exec = Jvm.exec) (hZ : Z.Warmed39 s.vm) (eT : T.heap = h) (A : own_IA Z h a vs) {i : Nat} {x : Int32} (hi : i < vs.length)
    {g : JFrame} (hg : g.method = m) {rest : List Value} (hs : g.stack = Value.int x :: .int (Int32.ofNat i) :: .ref a :: rest) (hd : decode c.code g.pc = .ok (.iastore, 1)) :
    ∃ T' h', Stand p l e R s m args below meth c T' (locs ++ [⟨a, i⟩]) cells slots ∧ T'.heap = h' ∧ Wr h h' a i (Value.int x) ∧ own_IA Z h' a (vs.set i x) ∧
      ∀ target, Steps p.tables e below (T'.setTop { g with pc := g.pc + 1, stack := rest }) target → Steps p.tables e below (T.setTop g) target := by
  have q := A.small
  have r := own_stIA X hx hZ eT A (x := x) (own_inN hi q) hg hs hd
  rw [own_toN (Nat.lt_trans hi q)] at r
  exact r
/-- a new one -/
theorem own_newIA (X : Stand p l e R s m args below meth c T locs cells slots) (hx : p.tables.exec = Jvm.exec) (hZ : Z.Warmed39 s.vm) (w : (Jvm.Cond.arrayClass .int).before a0 Z = true) (eT : T.heap = h) {g : JFrame} (hg : g.method = m) (hd : decode c.code g.pc = .ok (.newarray .int, 2)) {n : Int32} {rest : List Value} (hs : g.stack = .int n :: rest)
    (hn : ¬ n < 0) {cap : Nat} (hcap : n.toNatClampNeg ≤ cap) (hb : cap * 8 ≤ 536870912) (hc : cells + 1 ≤ R.cells) (hl : slots + cap ≤ R.slots) :
    ∃ T' h', Stand p l e R s m args below meth c T' locs (cells + 1) (slots + cap) ∧ T'.heap = h' ∧ Ext h h' ∧ own_IA Z h' h.size (List.replicate n.toNatClampNeg 0) ∧ Exa Z h' h.size "[I" ∧
      ∀ target, Steps p.tables e below (T'.setTop { g with pc := g.pc + 2, stack := .ref h.size :: rest }) target → Steps p.tables e below (T.setTop g) target := by
  obtain ⟨T', h', k, X', e', E', A', F', st'⟩ := newPE X hx hZ (aty := .int) w eT hg hd hs hn hcap hb hc hl (ad := "[I") (by decide)
  exact ⟨T', h', X', e', E', own_IA.new A' hn, F', st'⟩
end OwnIA

/-! int arrays: copies -/
section OwnC
variable {p : Program} {l : Launch} {e : Env} {R : Room} {s : State} {m : MethodId} {args : Array Value} {below : List Frame} {meth : Method} {c : Code} {T : State} {locs : List Loc} {cells slots : Nat} {Z : State} {a0 : Array Value} {h h' : Heap} {a b : Addr} {vs ud : List Int32}
theorem own_mapD (vs : List Int32) (k : Nat) : (vs.map Value.int).getD k (.int 0) = .int (vs.getD k 0) := by
  rw [List.getD_eq_getElem?_getD, List.getD_eq_getElem?_getD, List.getElem?_map]
  cases vs[k]? <;> rfl
theorem own_IA.arv (F : own_IA Z h a vs) : ∃ k, Arv Z h a k .int (Int32.ofNat vs.length) (vs.map Value.int) (.int 0) := by
  obtain ⟨c, A, S, q⟩ := F
  have e := congrArg List.length S
  rw [List.length_map, Array.length_toList] at e
  refine ⟨c.cls, c, A, rfl, ?_, ?_, fun k hk => ?_, fun i hi => ?_⟩
  · rw [own_toN q]; exact e
  · rw [Int32.lt_iff_toInt_lt, own_toI q]
    have e0 : (0 : Int32).toInt = 0 := rfl
    omega
  · rw [own_mapD, ← Array.getElem?_toList, S, List.getElem?_map, List.getD_eq_getElem?_getD, List.getElem?_eq_getElem (by omega)]
    rfl
  · rw [own_mapD]; rfl
theorem own_IA.ofArv {k : ClassId} {z : Int32} (F : Arv Z h a k .int z (vs.map Value.int) (.int 0)) (hz : z.toNatClampNeg = vs.length) : own_IA Z h a vs := by
  obtain ⟨c, A, -, S, q, H, -⟩ := F
  refine ⟨c, A, ?_, ?_⟩
  · apply List.ext_getElem?
    intro i
    rw [Array.getElem?_toList, List.getElem?_map]
    by_cases hi : i < c.slots.size
    · rw [H i hi, own_mapD, List.getD_eq_getElem?_getD, List.getElem?_eq_getElem (by omega)]
      rfl
    · rw [Array.getElem?_eq_none (by omega), List.getElem?_eq_none (by omega)]
      rfl
  · rw [← hz]; exact (back32 q).2
/-- System.arraycopy, from the start to the start -/
theorem own_cpIA (X : Stand p l e R s m args below meth c T locs cells slots) (hx : p.tables.exec = Jvm.exec) (hZ : Z.Warmed39 s.vm) {own : String} {index : Nat} (hown : s.vm.findClass own = some m.cls)
    (w1 : (Jvm.Cond.methodLink own index Jvm.Stand.acN).before a0 Z = true) (w2 : (Jvm.Cond.native Jvm.Stand.acN).before a0 Z = true) (w3 : (Jvm.Cond.static Jvm.Stand.acN).before a0 Z = true) (w4 : (Jvm.Cond.initialized "java/lang/System").before a0 Z = true) (eT : T.heap = h)
    (A : own_IA Z h a vs) (B : own_IA Z h b ud) {nn : Int32} (h3 : ¬ nn < 0) (h4 : nn.toNatClampNeg ≤ vs.length) (h5 : nn.toNatClampNeg ≤ ud.length) {n0 : Nat} (N : Fr n0 locs) (ge : n0 ≤ b)
    {g : JFrame} (hg : g.method = m) (hsize : g.locals.size = c.maxLocals) {rest : List Value} (hs : g.stack = .int nn :: .int (0 : Int32) :: .ref b :: .int (0 : Int32) :: .ref a :: rest) (hd : decode c.code g.pc = .ok (.invokestatic index, 3))
    (hf : 1 ≤ R.frames) {W : Nat} (hW : 2 * g.monitorRoom + (rest.map fun v => v.category).sum ≤ W) (hlo : W + (nativeFrameWords "java/lang/System" "arraycopy" 5 + 11) ≤ R.locals) :
    ∃ T' h' L, Stand p l e R s m args below meth c T' L cells slots ∧ T'.heap = h' ∧ Fr n0 L ∧ Keep h h' [b] ∧ own_IA Z h' b (vs.take nn.toNatClampNeg ++ ud.drop nn.toNatClampNeg) ∧
      ∀ target, Steps p.tables e below (T'.setTop { g with pc := g.pc + 3, stack := rest }) target → Steps p.tables e below (T.setTop g) target := by
  obtain ⟨ka, Aa⟩ := A.arv
  obtain ⟨kb, Ab⟩ := B.arv
  have z0 : (0 : Int32).toNatClampNeg = 0 := rfl
  obtain ⟨T', h', L, X', e', N', K', A', st'⟩ := cpA X hx hZ hown w1 w2 w3 w4 eT Aa Ab (Or.inl ⟨rfl, rfl⟩) (sp := 0) (dp := 0) (nn := nn) (by decide) (by decide) h3 (by rw [own_toN A.small, z0]; omega) (by rw [own_toN B.small, z0]; omega) rfl (by rw [List.length_map, z0]; omega) N ge hg hsize hs hd hf hW hlo
  refine ⟨T', h', L, X', e', N', K', ?_, st'⟩
  refine own_IA.ofArv (k := kb) (z := Int32.ofNat ud.length) ?_ (by rw [own_toN B.small, List.length_append, List.length_take, List.length_drop]; omega)
  have e : (List.map Value.int (vs.take nn.toNatClampNeg ++ ud.drop nn.toNatClampNeg)) = List.take (0 : Int32).toNatClampNeg (List.map Value.int ud) ++ (List.range nn.toNatClampNeg).map (fun i => (List.map Value.int vs).getD ((0 : Int32).toNatClampNeg + i) (.int 0)) ++ List.drop ((0 : Int32).toNatClampNeg + nn.toNatClampNeg) (List.map Value.int ud) := by
    rw [z0, List.take_zero, List.nil_append, Nat.zero_add, List.map_append, List.map_drop]
    congr 1
    apply List.ext_getElem?
    intro i
    rw [List.getElem?_map, List.getElem?_map]
    by_cases hi : i < nn.toNatClampNeg
    · rw [List.getElem?_take_of_lt hi, List.getElem?_range hi, List.getElem?_eq_getElem (by omega)]
      simp only [Option.map_some, Nat.zero_add, own_mapD]
      rw [List.getD_eq_getElem?_getD, List.getElem?_eq_getElem (by omega)]
      rfl
    · rw [List.getElem?_eq_none (by rw [List.length_take]; omega), List.getElem?_eq_none (by rw [List.length_range]; omega)]
      rfl
  rw [e]; exact A'
/-- clone -/
theorem own_cloneIA (X : Stand p l e R s m args below meth c T locs cells slots) (hx : p.tables.exec = Jvm.exec) (hZ : Z.Warmed39 s.vm) {own : String} {index : Nat} (hown : s.vm.findClass own = some m.cls)
    (w1 : (Jvm.Cond.methodLink own index ⟨"[I", "clone", "()Ljava/lang/Object;"⟩).before a0 Z = true) (w2 : (Jvm.Cond.sameMethod "[I" "java/lang/Object" "clone" "()Ljava/lang/Object;").before a0 Z = true) (w3 : (Jvm.Cond.native ⟨"java/lang/Object", "clone", "()Ljava/lang/Object;"⟩).before a0 Z = true)
    (w4 : (Jvm.Cond.instanceMethod ⟨"java/lang/Object", "clone", "()Ljava/lang/Object;"⟩).before a0 Z = true) (w5 : (Jvm.Cond.selects "[I" ⟨"[I", "clone", "()Ljava/lang/Object;"⟩ ⟨"java/lang/Object", "clone", "()Ljava/lang/Object;"⟩).before a0 Z = true) (w6 : (Jvm.Cond.castable "[I" "java/lang/Cloneable").before a0 Z = true)
    (eT : T.heap = h) (A : own_IA Z h a vs) (E : Exa Z h a "[I") {g : JFrame} (hg : g.method = m) (hsize : g.locals.size = c.maxLocals) {rest : List Value} (hst : g.stack = .ref a :: rest) (hd : decode c.code g.pc = .ok (.invokevirtual index, 3))
    (hf : 1 ≤ R.frames) {W cap : Nat} (hW : 2 * g.monitorRoom + (rest.map fun v => v.category).sum ≤ W) (hl : W + 14 ≤ R.locals) (hcap : vs.length ≤ cap) (hc : cells + 1 ≤ R.cells) (hsl : slots + cap ≤ R.slots) :
    ∃ T' h', Stand p l e R s m args below meth c T' locs (cells + 1) (slots + cap) ∧ T'.heap = h' ∧ Ext h h' ∧ own_IA Z h' h.size vs ∧ Exa Z h' h.size "[I" ∧
      ∀ target, Steps p.tables e below (T'.setTop { g with pc := g.pc + 3, stack := .ref h.size :: rest }) target → Steps p.tables e below (T.setTop g) target := by
  obtain ⟨ka, Aa⟩ := A.arv
  obtain ⟨T', h', X', e', ex, A', E', st⟩ := cloneH X hx hZ hown w1 w2 w3 w4 w5 w6 eT Aa.arh E hg hsize hst hd hf hW hl (cap := cap) (by rw [own_toN A.small]; exact hcap) hc hsl
  exact ⟨T', h', X', e', ex, own_IA.ofArv (k := ka) (z := Int32.ofNat vs.length) A' (by rw [own_toN A.small]), E', st⟩
end OwnC
theorem own_mvNM {Z s : State} {a0 args : Array Value} {own host : String} {index : Nat} {y : MethodName} (hZ : Z.Warmed39 s.vm) (w : (Jvm.Cond.methodLinkNest own index y host).before a0 Z = true) : (Jvm.Cond.methodLinkNest own index y host).before args s = true := (Cond.methodLinkNest_wide hZ w :)

def own_ci (p1 : Int32) (p2 : Int32) : Int32 := p1
def Q_rm6 (Z : State) (p1 : Int32) (p2 : Int32) (h0 : Heap) (n0 : Nat) (v : Option Value) (h : Heap) (L : List Loc) : Prop := v = some (.int (own_ci p1 p2)) ∧ Fr n0 L ∧ h = h0
theorem own_pn0 : plainName "jdk/internal/util/Preconditions" = true := by first | (simp [plainName, overriddenIn]; done) | decide +kernel
theorem d6_0 : decode jdk_41_method_11_code 0 = .ok (.iload_n 0, 1) := by decide +kernel
theorem d6_1 : decode jdk_41_method_11_code 1 = .ok (.ifCond .lt 8, 3) := by decide +kernel
theorem d6_4 : decode jdk_41_method_11_code 4 = .ok (.iload_n 0, 1) := by decide +kernel
theorem d6_5 : decode jdk_41_method_11_code 5 = .ok (.iload_n 1, 1) := by decide +kernel
theorem d6_6 : decode jdk_41_method_11_code 6 = .ok (.if_icmp .lt 10, 3) := by decide +kernel
theorem d6_16 : decode jdk_41_method_11_code 16 = .ok (.iload_n 0, 1) := by decide +kernel
theorem d6_17 : decode jdk_41_method_11_code 17 = .ok (.ireturn, 1) := by decide +kernel
set_option maxRecDepth 65536 in
set_option maxHeartbeats 40000000 in
theorem rm6 (l : Launch) (Z : State) (a0 : Array Value) (hw : ∀ d ∈ tables_1, d.before a0 Z = true) (ws : List Jvm.Cond) (p1 : Int32) (p2 : Int32) (h0 : Heap) (n0 : Nat) (Z0 : n0 ≤ h0.size) (q1 : ¬ p1 < 0) (q2 : p1 < p2) :
    MetFree l (⟨"jdk/internal/util/Preconditions", "checkIndex", "(IILjava/util/function/BiFunction;)I"⟩ : MethodName) (head1 (Jvm.Cond.code (⟨"jdk/internal/util/Preconditions", "checkIndex", "(IILjava/util/function/BiFunction;)I"⟩ : MethodName) jdk_41_method_11_code 3 (some .int) :: ws) ({ frames := 0, cells := 0, slots := 0, locals := 0 } : Room)) (fun aa U => aa = #[(.int p1), (.int p2), .null] ∧ Z.Warmed39 U.vm ∧ U.heap = h0) (fun _ _ _ _ _ => True) (fun _ U o U' => ∃ v L, o = .returned v ∧ Q_rm6 Z p1 p2 h0 n0 v U'.heap L ∧ FrameEnd U o U' L ({ frames := 0, cells := 0, slots := 0, locals := 0 } : Room).cells ({ frames := 0, cells := 0, slots := 0, locals := 0 } : Room).slots) := by
  refine MetFree.of_bodySF (plainFor_of_name own_pn0) hisR ?_
  intro p e s m args below meth c s₁ Bd hml0 hP hK
  obtain ⟨rfl, hZ, hh⟩ := hP
  have hx := Bd.exec
  have hby := Bd.bytes
  have hml : c.maxLocals = 3 := hml0
  have hlk : meth.locks = false := BodyLoose.notSynchronized Bd
  have hown : s.vm.findClass "jdk/internal/util/Preconditions" = some m.cls := findClass_of_methodNamed Bd.named
  have hnm := (name_of_methodNamed Bd.named Bd.method).1
  have X0 : Stand p l e ({ frames := 0, cells := 0, slots := 0, locals := 0 } : Room) s m #[(.int p1), (.int p2), .null] below meth c s₁ [] 0 0 := Stand.of_body Bd
  have e0 : s₁.heap = h0 := by rw [← hh, Bd.state]; rfl
  have N0 := Fr.nil n0
  show own_Go p e below s (Q_rm6 Z p1 p2 h0 n0) 0 0 (s₁.setTop (entryFrame m #[(.int p1), (.int p2), .null] 3))
  refine own_go (B := s₁.setTop (mkF m 0 #[.val (.int p1), .val (.int p2), .val .null] [])) (fun tgt cont => (XT.entry rfl).trans cont) ?_
  refine own_go (B := s₁.setTop (mkF m 17 #[.val (.int p1), .val (.int p2), .val .null] [(.int p1)])) (fun tgt cont => ?_) ?_
  · refine XS.iloadN X0.here hx rfl (hb hby d6_0) rfl ?_
    refine XS.ifNo X0.here hx rfl (hb hby d6_1) rfl (XT.i0_lt_f q1) ?_
    refine XS.iloadN X0.here hx rfl (hb hby d6_4) rfl ?_
    refine XS.iloadN X0.here hx rfl (hb hby d6_5) rfl ?_
    refine XS.icmpYes X0.here hx rfl (pc0 := 6) (pc' := 16) rfl (hb hby d6_6) rfl (XT.ii_lt_t q2) (by decide) (by decide) ?_
    refine XS.iloadN X0.here hx rfl (hb hby d6_16) rfl ?_
    exact cont
  refine own_end X0 (v := some (.int p1)) (fun h => by rw [Bd.returns] at h; cases h) hlk ?_ (by decide) (by decide) (fun fs hl => retI X0 hx Bd.returns (hb hby d6_17) hl)
  exact ⟨(by unfold own_ci; exact rfl), N0, e0⟩
def own_cx (p1 : Int32) (p2 : Int32) : Int32 := (own_ci p1 p2)
def Q_rm5 (Z : State) (p1 : Int32) (p2 : Int32) (h0 : Heap) (n0 : Nat) (v : Option Value) (h : Heap) (L : List Loc) : Prop := v = some (.int (own_cx p1 p2)) ∧ Fr n0 L ∧ h = h0
theorem own_pn1 : plainName "java/util/Objects" = true := by first | (simp [plainName, overriddenIn]; done) | decide +kernel
theorem own_pd0 : parseMethodDescriptor "(IILjava/util/function/BiFunction;)I" = some ⟨[.int, .int, (.object "java/util/function/BiFunction")], some .int⟩ := by decide +kernel
theorem d5_0 : decode jdk_31_method_17_code 0 = .ok (.iload_n 0, 1) := by decide +kernel
theorem d5_1 : decode jdk_31_method_17_code 1 = .ok (.iload_n 1, 1) := by decide +kernel
theorem d5_2 : decode jdk_31_method_17_code 2 = .ok (.aconst_null, 1) := by decide +kernel
theorem d5_3 : decode jdk_31_method_17_code 3 = .ok (.invokestatic 105, 3) := by decide +kernel
theorem d5_6 : decode jdk_31_method_17_code 6 = .ok (.ireturn, 1) := by decide +kernel
set_option maxRecDepth 65536 in
set_option maxHeartbeats 40000000 in
theorem rm5 (l : Launch) (Z : State) (a0 : Array Value) (hw : ∀ d ∈ tables_1, d.before a0 Z = true) (ws : List Jvm.Cond) (p1 : Int32) (p2 : Int32) (h0 : Heap) (n0 : Nat) (Z0 : n0 ≤ h0.size) (q1 : ¬ p1 < 0) (q2 : p1 < p2) :
    MetFree l (⟨"java/util/Objects", "checkIndex", "(II)I"⟩ : MethodName) (head1 (Jvm.Cond.code (⟨"java/util/Objects", "checkIndex", "(II)I"⟩ : MethodName) jdk_31_method_17_code 2 (some .int) :: ws) ({ frames := 1, cells := 0, slots := 0, locals := 14 } : Room)) (fun aa U => aa = #[(.int p1), (.int p2)] ∧ Z.Warmed39 U.vm ∧ U.heap = h0) (fun _ _ _ _ _ => True) (fun _ U o U' => ∃ v L, o = .returned v ∧ Q_rm5 Z p1 p2 h0 n0 v U'.heap L ∧ FrameEnd U o U' L ({ frames := 1, cells := 0, slots := 0, locals := 14 } : Room).cells ({ frames := 1, cells := 0, slots := 0, locals := 14 } : Room).slots) := by
  refine MetFree.of_bodySF (plainFor_of_name own_pn1) hisR ?_
  intro p e s m args below meth c s₁ Bd hml0 hP hK
  obtain ⟨rfl, hZ, hh⟩ := hP
  have hx := Bd.exec
  have hby := Bd.bytes
  have hml : c.maxLocals = 2 := hml0
  have hlk : meth.locks = false := BodyLoose.notSynchronized Bd
  have hown : s.vm.findClass "java/util/Objects" = some m.cls := findClass_of_methodNamed Bd.named
  have hnm := (name_of_methodNamed Bd.named Bd.method).1
  have X0 : Stand p l e ({ frames := 1, cells := 0, slots := 0, locals := 14 } : Room) s m #[(.int p1), (.int p2)] below meth c s₁ [] 0 0 := Stand.of_body Bd
  have e0 : s₁.heap = h0 := by rw [← hh, Bd.state]; rfl
  have N0 := Fr.nil n0
  show own_Go p e below s (Q_rm5 Z p1 p2 h0 n0) 0 0 (s₁.setTop (entryFrame m #[(.int p1), (.int p2)] 2))
  refine own_go (B := s₁.setTop (mkF m 0 #[.val (.int p1), .val (.int p2)] [])) (fun tgt cont => (XT.entry rfl).trans cont) ?_
  refine own_go (B := s₁.setTop (mkF m 3 #[.val (.int p1), .val (.int p2)] [.null, (.int p2), (.int p1)])) (fun tgt cont => ?_) ?_
  · refine XS.iloadN X0.here hx rfl (hb hby d5_0) rfl ?_
    refine XS.iloadN X0.here hx rfl (hb hby d5_1) rfl ?_
    refine XS.aconstNull X0.here hx rfl (hb hby d5_2) ?_
    exact cont
  -- pc 3: Preconditions.checkIndex
  obtain ⟨_, _, ⟨T1, L1, k1, n1⟩, -, X1, ⟨Lc1, hQ1, l1, y1, z1⟩, st1⟩ := Jvm.LawKit.callS X0 hx (y := (⟨"jdk/internal/util/Preconditions", "checkIndex", "(IILjava/util/function/BiFunction;)I"⟩ : MethodName)) hown (mvT hZ (hw _ (List.mem_of_getElem? (i := 31) rfl))) (mvT hZ (hw _ (List.mem_of_getElem? (i := 32) rfl))) (mvT hZ (hw _ (List.mem_of_getElem? (i := 33) rfl))) (mvT hZ (hw _ (List.mem_of_getElem? (i := 34) rfl))) (by decide) (backOf (W := 0) (rm6 l Z a0 hw [] p1 p2 h0 n0 Z0 q1 q2) hZ (hw _ (List.mem_of_getElem? (i := 34) rfl)) (hw _ (List.mem_of_getElem? (i := 33) rfl)) (by decide) (by decide)) (g := (mkF m 3 #[.val (.int p1), .val (.int p2)] [.null, (.int p2), (.int p1)])) rfl (by rw [hml]; rfl) (argsL := [(.int p1), (.int p2), .null]) (rest := []) (lenOf own_pd0 rfl) rfl (by show 2 * 0 + _ ≤ _; exact Nat.le_of_eq rfl) (hb hby d5_3) (fun _ _ => ⟨rfl, e0, (by decide : 0 + 0 ≤ _), (by decide : 0 + 0 ≤ _)⟩)
  dsimp only [Pt.U, Pt.locs, Pt.cells, Pt.slots] at X1 l1 y1 z1 st1 hQ1
  subst y1 z1
  obtain ⟨rfl, N1q, e1⟩ := hQ1
  have N1 : Fr n0 L1 := by rw [l1]; exact Fr.app N0 N1q
  refine own_go (fun tgt cont => st1 tgt cont) ?_
  show own_Go p e below s (Q_rm5 Z p1 p2 h0 n0) 0 0 (T1.setTop (mkF m 6 #[.val (.int p1), .val (.int p2)] [(.int (own_ci p1 p2))]))
  refine own_end X1 (v := some (.int (own_ci p1 p2))) (fun h => by rw [Bd.returns] at h; cases h) hlk ?_ (by decide) (by decide) (fun fs hl => retI X1 hx Bd.returns (hb hby d5_6) hl)
  exact ⟨(by unfold own_cx; exact rfl), N1, e1⟩
def own_min (p1 : Int32) (p2 : Int32) : Int32 := if p2 < p1 then p2 else p1
def Q_rm9 (Z : State) (p1 : Int32) (p2 : Int32) (h0 : Heap) (n0 : Nat) (v : Option Value) (h : Heap) (L : List Loc) : Prop := v = some (.int (own_min p1 p2)) ∧ Fr n0 L ∧ h = h0
theorem d9_0 : decode jdk_29_method_69_code 0 = .ok (.iload_n 0, 1) := by decide +kernel
theorem d9_1 : decode jdk_29_method_69_code 1 = .ok (.iload_n 1, 1) := by decide +kernel
theorem d9_2 : decode jdk_29_method_69_code 2 = .ok (.if_icmp .gt 7, 3) := by decide +kernel
theorem d9_5 : decode jdk_29_method_69_code 5 = .ok (.iload_n 0, 1) := by decide +kernel
theorem d9_6 : decode jdk_29_method_69_code 6 = .ok (.goto 4, 3) := by decide +kernel
theorem d9_9 : decode jdk_29_method_69_code 9 = .ok (.iload_n 1, 1) := by decide +kernel
theorem d9_10 : decode jdk_29_method_69_code 10 = .ok (.ireturn, 1) := by decide +kernel
set_option maxRecDepth 65536 in
set_option maxHeartbeats 40000000 in
theorem rm9 (l : Launch) (Z : State) (a0 : Array Value) (hw : ∀ d ∈ tables_1, d.before a0 Z = true) (ws : List Jvm.Cond) (p1 : Int32) (p2 : Int32) (h0 : Heap) (n0 : Nat) (Z0 : n0 ≤ h0.size)  :
    MetFree l (⟨"java/lang/Math", "min", "(II)I"⟩ : MethodName) (head1 (Jvm.Cond.code (⟨"java/lang/Math", "min", "(II)I"⟩ : MethodName) jdk_29_method_69_code 2 (some .int) :: ws) ({ frames := 0, cells := 0, slots := 0, locals := 0 } : Room)) (fun aa U => aa = #[(.int p1), (.int p2)] ∧ Z.Warmed39 U.vm ∧ U.heap = h0) (fun _ _ _ _ _ => True) (fun _ U o U' => ∃ v L, o = .returned v ∧ Q_rm9 Z p1 p2 h0 n0 v U'.heap L ∧ FrameEnd U o U' L ({ frames := 0, cells := 0, slots := 0, locals := 0 } : Room).cells ({ frames := 0, cells := 0, slots := 0, locals := 0 } : Room).slots) := by
  refine MetFree.of_bodySF (Jvm.Free.JP.mathPlain rfl (by decide +kernel)) hisR ?_
  intro p e s m args below meth c s₁ Bd hml0 hP hK
  obtain ⟨rfl, hZ, hh⟩ := hP
  have hx := Bd.exec
  have hby := Bd.bytes
  have hml : c.maxLocals = 2 := hml0
  have hlk : meth.locks = false := BodyLoose.notSynchronized Bd
  have hown : s.vm.findClass "java/lang/Math" = some m.cls := findClass_of_methodNamed Bd.named
  have hnm := (name_of_methodNamed Bd.named Bd.method).1
  have X0 : Stand p l e ({ frames := 0, cells := 0, slots := 0, locals := 0 } : Room) s m #[(.int p1), (.int p2)] below meth c s₁ [] 0 0 := Stand.of_body Bd
  have e0 : s₁.heap = h0 := by rw [← hh, Bd.state]; rfl
  have N0 := Fr.nil n0
  show own_Go p e below s (Q_rm9 Z p1 p2 h0 n0) 0 0 (s₁.setTop (entryFrame m #[(.int p1), (.int p2)] 2))
  refine own_go (B := s₁.setTop (mkF m 0 #[.val (.int p1), .val (.int p2)] [])) (fun tgt cont => (XT.entry rfl).trans cont) ?_
  refine own_go (B := s₁.setTop (mkF m 2 #[.val (.int p1), .val (.int p2)] [(.int p2), (.int p1)])) (fun tgt cont => ?_) ?_
  · refine XS.iloadN X0.here hx rfl (hb hby d9_0) rfl ?_
    refine XS.iloadN X0.here hx rfl (hb hby d9_1) rfl ?_
    exact cont
  by_cases hc1 : p2 < p1
  ·
    refine own_go (B := s₁.setTop (mkF m 10 #[.val (.int p1), .val (.int p2)] [(.int p2)])) (fun tgt cont => ?_) ?_
    · refine XS.icmpYes X0.here hx rfl (pc0 := 2) (pc' := 9) rfl (hb hby d9_2) rfl (XT.ii_gt_t hc1) (by decide) (by decide) ?_
      refine XS.iloadN X0.here hx rfl (hb hby d9_9) rfl ?_
      exact cont
    refine own_end X0 (v := some (.int p2)) (fun h => by rw [Bd.returns] at h; cases h) hlk ?_ (by decide) (by decide) (fun fs hl => retI X0 hx Bd.returns (hb hby d9_10) hl)
    exact ⟨(by unfold own_min; first | (simp only [if_pos hc1]; done) | (simp only [if_pos hc1]; exact rfl) | exact rfl), N0, e0⟩
  ·
    refine own_go (B := s₁.setTop (mkF m 10 #[.val (.int p1), .val (.int p2)] [(.int p1)])) (fun tgt cont => ?_) ?_
    · refine XS.icmpNo X0.here hx rfl (hb hby d9_2) rfl (XT.ii_gt_f hc1) ?_
      refine XS.iloadN X0.here hx rfl (hb hby d9_5) rfl ?_
      refine XS.goto X0.here hx rfl (pc0 := 6) (pc' := 10) rfl (hb hby d9_6) (by decide) (by decide) ?_
      exact cont
    refine own_end X0 (v := some (.int p1)) (fun h => by rw [Bd.returns] at h; cases h) hlk ?_ (by decide) (by decide) (fun fs hl => retI X0 hx Bd.returns (hb hby d9_10) hl)
    exact ⟨(by unfold own_min; first | (simp only [if_neg hc1]; done) | (simp only [if_neg hc1]; exact rfl) | exact rfl), N0, e0⟩
def own_minJ (p1 : Int64) (p2 : Int64) : Int64 := if p2 < p1 then p2 else p1
def Q_rm7 (Z : State) (p1 : Int64) (p2 : Int64) (h0 : Heap) (n0 : Nat) (v : Option Value) (h : Heap) (L : List Loc) : Prop := v = some (.long (own_minJ p1 p2)) ∧ Fr n0 L ∧ h = h0
theorem d7_0 : decode jdk_29_method_70_code 0 = .ok (.lload_n 0, 1) := by decide +kernel
theorem d7_1 : decode jdk_29_method_70_code 1 = .ok (.lload_n 2, 1) := by decide +kernel
theorem d7_2 : decode jdk_29_method_70_code 2 = .ok (.lcmp, 1) := by decide +kernel
theorem d7_3 : decode jdk_29_method_70_code 3 = .ok (.ifCond .gt 7, 3) := by decide +kernel
theorem d7_6 : decode jdk_29_method_70_code 6 = .ok (.lload_n 0, 1) := by decide +kernel
theorem d7_7 : decode jdk_29_method_70_code 7 = .ok (.goto 4, 3) := by decide +kernel
theorem d7_10 : decode jdk_29_method_70_code 10 = .ok (.lload_n 2, 1) := by decide +kernel
theorem d7_11 : decode jdk_29_method_70_code 11 = .ok (.lreturn, 1) := by decide +kernel
set_option maxRecDepth 65536 in
set_option maxHeartbeats 40000000 in
theorem rm7 (l : Launch) (Z : State) (a0 : Array Value) (hw : ∀ d ∈ tables_1, d.before a0 Z = true) (ws : List Jvm.Cond) (p1 : Int64) (p2 : Int64) (h0 : Heap) (n0 : Nat) (Z0 : n0 ≤ h0.size)  :
    MetFree l (⟨"java/lang/Math", "min", "(JJ)J"⟩ : MethodName) (head1 (Jvm.Cond.code (⟨"java/lang/Math", "min", "(JJ)J"⟩ : MethodName) jdk_29_method_70_code 4 (some .long) :: ws) ({ frames := 0, cells := 0, slots := 0, locals := 0 } : Room)) (fun aa U => aa = #[(.long p1), (.long p2)] ∧ Z.Warmed39 U.vm ∧ U.heap = h0) (fun _ _ _ _ _ => True) (fun _ U o U' => ∃ v L, o = .returned v ∧ Q_rm7 Z p1 p2 h0 n0 v U'.heap L ∧ FrameEnd U o U' L ({ frames := 0, cells := 0, slots := 0, locals := 0 } : Room).cells ({ frames := 0, cells := 0, slots := 0, locals := 0 } : Room).slots) := by
  refine MetFree.of_bodySF (Jvm.Free.JP.mathPlain rfl (by decide +kernel)) hisR ?_
  intro p e s m args below meth c s₁ Bd hml0 hP hK
  obtain ⟨rfl, hZ, hh⟩ := hP
  have hx := Bd.exec
  have hby := Bd.bytes
  have hml : c.maxLocals = 4 := hml0
  have hlk : meth.locks = false := BodyLoose.notSynchronized Bd
  have hown : s.vm.findClass "java/lang/Math" = some m.cls := findClass_of_methodNamed Bd.named
  have hnm := (name_of_methodNamed Bd.named Bd.method).1
  have X0 : Stand p l e ({ frames := 0, cells := 0, slots := 0, locals := 0 } : Room) s m #[(.long p1), (.long p2)] below meth c s₁ [] 0 0 := Stand.of_body Bd
  have e0 : s₁.heap = h0 := by rw [← hh, Bd.state]; rfl
  have N0 := Fr.nil n0
  show own_Go p e below s (Q_rm7 Z p1 p2 h0 n0) 0 0 (s₁.setTop (entryFrame m #[(.long p1), (.long p2)] 4))
  refine own_go (B := s₁.setTop (mkF m 0 #[.val (.long p1), .second, .val (.long p2), .second] [])) (fun tgt cont => (XT.entry rfl).trans cont) ?_
  refine own_go (B := s₁.setTop (mkF m 3 #[.val (.long p1), .second, .val (.long p2), .second] [(.int (XT.cmpL p1 p2))])) (fun tgt cont => ?_) ?_
  · refine XS.lloadN X0.here hx rfl (hb hby d7_0) rfl ?_
    refine XS.lloadN X0.here hx rfl (hb hby d7_1) rfl ?_
    refine XT.lcmp X0.here hx rfl (hb hby d7_2) rfl ?_
    exact cont
  by_cases hc1 : p2 < p1
  ·
    refine own_go (B := s₁.setTop (mkF m 11 #[.val (.long p1), .second, .val (.long p2), .second] [(.long p2)])) (fun tgt cont => ?_) ?_
    · refine XS.ifYes X0.here hx rfl (pc0 := 3) (pc' := 10) rfl (hb hby d7_3) rfl (XT.ll_gt_t hc1) (by decide) (by decide) ?_
      refine XS.lloadN X0.here hx rfl (hb hby d7_10) rfl ?_
      exact cont
    refine own_end X0 (v := some (.long p2)) (fun h => by rw [Bd.returns] at h; cases h) hlk ?_ (by decide) (by decide) (fun fs hl => retOut X0 hx Bd.returns rfl (Or.inr (Or.inl ⟨rfl, rfl, _, rfl⟩)) (hb hby d7_11) hl)
    exact ⟨(by unfold own_minJ; first | (simp only [if_pos hc1]; done) | (simp only [if_pos hc1]; exact rfl) | exact rfl), N0, e0⟩
  ·
    refine own_go (B := s₁.setTop (mkF m 11 #[.val (.long p1), .second, .val (.long p2), .second] [(.long p1)])) (fun tgt cont => ?_) ?_
    · refine XS.ifNo X0.here hx rfl (hb hby d7_3) rfl (XT.ll_gt_f hc1) ?_
      refine XS.lloadN X0.here hx rfl (hb hby d7_6) rfl ?_
      refine XS.goto X0.here hx rfl (pc0 := 7) (pc' := 11) rfl (hb hby d7_7) (by decide) (by decide) ?_
      exact cont
    refine own_end X0 (v := some (.long p1)) (fun h => by rw [Bd.returns] at h; cases h) hlk ?_ (by decide) (by decide) (fun fs hl => retOut X0 hx Bd.returns rfl (Or.inr (Or.inl ⟨rfl, rfl, _, rfl⟩)) (hb hby d7_11) hl)
    exact ⟨(by unfold own_minJ; first | (simp only [if_neg hc1]; done) | (simp only [if_neg hc1]; exact rfl) | exact rfl), N0, e0⟩
def own_bi_degree (p1 : Int32) : List Int32 := (List.replicate p1.toNatClampNeg 0)
def own_bi_ends  : List Int32 := [(0 : Int32), (0 : Int32), (0 : Int32), (0 : Int32), (0 : Int32), (0 : Int32), (0 : Int32), (0 : Int32), (0 : Int32), (0 : Int32), (0 : Int32), (0 : Int32), (0 : Int32), (0 : Int32), (0 : Int32), (0 : Int32)]
def Q_rm1 (Z : State) (a : Addr) (p1 : Int32) (h0 : Heap) (n0 : Nat) (v : Option Value) (h : Heap) (L : List Loc) : Prop := ∃ nb0 nb1 : Addr, v = none ∧ Fr n0 L ∧ Keep h0 h [a] ∧ Exa Z h a "com/example/cyclecut/cyclecut/graph/Graph$Builder" ∧ Fld Z h a "com/example/cyclecut/cyclecut/graph/Graph$Builder" "vertexCount" "I" (.int p1) ∧ Fld Z h a "com/example/cyclecut/cyclecut/graph/Graph$Builder" "degree" "[I" (.ref nb0) ∧ Fld Z h a "com/example/cyclecut/cyclecut/graph/Graph$Builder" "ends" "[I" (.ref nb1) ∧ Fld Z h a "com/example/cyclecut/cyclecut/graph/Graph$Builder" "edgeCount" "I" (.int (0 : Int32)) ∧ h0.size ≤ nb0 ∧ own_IA Z h nb0 (own_bi_degree p1) ∧ Exa Z h nb0 "[I" ∧ h0.size ≤ nb1 ∧ own_IA Z h nb1 own_bi_ends ∧ Exa Z h nb1 "[I" ∧ nb0 ≠ nb1
theorem own_pn2 : plainName "com/example/cyclecut/cyclecut/graph/Graph$Builder" = true := by first | (simp [plainName, overriddenIn]; done) | decide +kernel
theorem d1_0 : decode prog_25_method_1_code 0 = .ok (.aload_n 0, 1) := by decide +kernel
theorem d1_1 : decode prog_25_method_1_code 1 = .ok (.invokespecial 3, 3) := by decide +kernel
theorem d1_4 : decode prog_25_method_1_code 4 = .ok (.aload_n 0, 1) := by decide +kernel
theorem d1_5 : decode prog_25_method_1_code 5 = .ok (.bipush 16, 2) := by decide +kernel
theorem d1_7 : decode prog_25_method_1_code 7 = .ok (.newarray .int, 2) := by decide +kernel
theorem d1_9 : decode prog_25_method_1_code 9 = .ok (.putfield 9, 3) := by decide +kernel
theorem d1_12 : decode prog_25_method_1_code 12 = .ok (.iload_n 1, 1) := by decide +kernel
theorem d1_13 : decode prog_25_method_1_code 13 = .ok (.ifCond .ge 17, 3) := by decide +kernel
theorem d1_30 : decode prog_25_method_1_code 30 = .ok (.aload_n 0, 1) := by decide +kernel
theorem d1_31 : decode prog_25_method_1_code 31 = .ok (.iload_n 1, 1) := by decide +kernel
theorem d1_32 : decode prog_25_method_1_code 32 = .ok (.putfield 24, 3) := by decide +kernel
theorem d1_35 : decode prog_25_method_1_code 35 = .ok (.aload_n 0, 1) := by decide +kernel
theorem d1_36 : decode prog_25_method_1_code 36 = .ok (.iload_n 1, 1) := by decide +kernel
theorem d1_37 : decode prog_25_method_1_code 37 = .ok (.newarray .int, 2) := by decide +kernel
theorem d1_39 : decode prog_25_method_1_code 39 = .ok (.putfield 28, 3) := by decide +kernel
theorem d1_42 : decode prog_25_method_1_code 42 = .ok (.return_, 1) := by decide +kernel
set_option maxRecDepth 65536 in
set_option maxHeartbeats 40000000 in
theorem rm1 (l : Launch) (Z : State) (a0 : Array Value) (hw : ∀ d ∈ tables_1, d.before a0 Z = true) (ws : List Jvm.Cond) (a : Addr) (p1 : Int32) (h0 : Heap) (n0 : Nat) (Z0 : n0 ≤ h0.size) (E_a : Exa Z h0 a "com/example/cyclecut/cyclecut/graph/Graph$Builder") (F_a_vertexCount : Fld Z h0 a "com/example/cyclecut/cyclecut/graph/Graph$Builder" "vertexCount" "I" (.int (0 : Int32))) (F_a_degree : Fld Z h0 a "com/example/cyclecut/cyclecut/graph/Graph$Builder" "degree" "[I" .null) (F_a_ends : Fld Z h0 a "com/example/cyclecut/cyclecut/graph/Graph$Builder" "ends" "[I" .null) (F_a_edgeCount : Fld Z h0 a "com/example/cyclecut/cyclecut/graph/Graph$Builder" "edgeCount" "I" (.int (0 : Int32))) (g_a : n0 ≤ a) (hn : ¬ p1 < 0) (h8 : p1.toNatClampNeg ≤ 8) :
    MetFree l (⟨"com/example/cyclecut/cyclecut/graph/Graph$Builder", "<init>", "(I)V"⟩ : MethodName) (head1 (Jvm.Cond.code (⟨"com/example/cyclecut/cyclecut/graph/Graph$Builder", "<init>", "(I)V"⟩ : MethodName) prog_25_method_1_code 2 none :: ws) ({ frames := 1, cells := 2, slots := 24, locals := 12 } : Room)) (fun aa U => aa = #[(.ref a), (.int p1)] ∧ Z.Warmed39 U.vm ∧ U.heap = h0) (fun _ _ _ _ _ => True) (fun _ U o U' => ∃ v L, o = .returned v ∧ Q_rm1 Z a p1 h0 n0 v U'.heap L ∧ FrameEnd U o U' L ({ frames := 1, cells := 2, slots := 24, locals := 12 } : Room).cells ({ frames := 1, cells := 2, slots := 24, locals := 12 } : Room).slots) := by
  refine MetFree.of_bodySF (plainFor_of_name own_pn2) hisR ?_
  intro p e s m args below meth c s₁ Bd hml0 hP hK
  obtain ⟨rfl, hZ, hh⟩ := hP
  have hx := Bd.exec
  have hby := Bd.bytes
  have hml : c.maxLocals = 2 := hml0
  have hlk : meth.locks = false := BodyLoose.notSynchronized Bd
  have hown : s.vm.findClass "com/example/cyclecut/cyclecut/graph/Graph$Builder" = some m.cls := findClass_of_methodNamed Bd.named
  have hnm := (name_of_methodNamed Bd.named Bd.method).1
  have X0 : Stand p l e ({ frames := 1, cells := 2, slots := 24, locals := 12 } : Room) s m #[(.ref a), (.int p1)] below meth c s₁ [] 0 0 := Stand.of_body Bd
  have e0 : s₁.heap = h0 := by rw [← hh, Bd.state]; rfl
  have N0 := Fr.nil n0
  show own_Go p e below s (Q_rm1 Z a p1 h0 n0) 2 24 (s₁.setTop (entryFrame m #[(.ref a), (.int p1)] 2))
  refine own_go (B := s₁.setTop (mkF m 0 #[.val (.ref a), .val (.int p1)] [])) (fun tgt cont => (XT.entry rfl).trans cont) ?_
  refine own_go (B := s₁.setTop (mkF m 1 #[.val (.ref a), .val (.int p1)] [(.ref a)])) (fun tgt cont => ?_) ?_
  · refine XS.aloadN X0.here hx rfl (hb hby d1_0) rfl rfl ?_
    exact cont
  obtain ⟨T1, X1, e1, st1⟩ := initO X0 hx hZ hown (hw _ (List.mem_of_getElem? (i := 7) rfl)) (hw _ (List.mem_of_getElem? (i := 8) rfl)) (hw _ (List.mem_of_getElem? (i := 9) rfl)) e0 (g := (mkF m 1 #[.val (.ref a), .val (.int p1)] [(.ref a)])) rfl (by rw [hml]; rfl) rfl (hb hby d1_1) (by decide) (W := 0) (by show 2 * 0 + _ ≤ _; exact Nat.le_of_eq rfl) (by decide)
  refine own_go (fun tgt cont => st1 tgt cont) ?_
  show own_Go p e below s (Q_rm1 Z a p1 h0 n0) 2 24 (T1.setTop (mkF m 4 #[.val (.ref a), .val (.int p1)] []))
  refine own_go (B := T1.setTop (mkF m 7 #[.val (.ref a), .val (.int p1)] [(.int (16 : Int32)), (.ref a)])) (fun tgt cont => ?_) ?_
  · refine XS.aloadN X1.here hx rfl (hb hby d1_4) rfl rfl ?_
    refine XT.bipushV X1.here hx rfl (16 : Int32) (hb hby d1_5) rfl ?_
    exact cont
  obtain ⟨T2, h2, X2, e2, E2, A2, AE2, st2⟩ := own_newIA X1 hx hZ (hw _ (List.mem_of_getElem? (i := 10) rfl)) e1 (g := (mkF m 7 #[.val (.ref a), .val (.int p1)] [(.int (16 : Int32)), (.ref a)])) rfl (hb hby d1_7) rfl (by decide) (cap := 16) (by decide) (by decide) (by decide) (by decide)
  obtain ⟨b2, g2⟩ : ∃ z, z = h0.size := ⟨_, rfl⟩
  rw [← g2] at A2 AE2 st2
  have g_b2 : n0 ≤ b2 := Nat.le_trans Z0 (Nat.le_of_eq g2.symm)
  have sz_b2 : h0.size ≤ b2 := Nat.le_trans (Keep.refl h0 [a]).1 (Nat.le_of_eq g2.symm)
  have ne_a_b2 : a ≠ b2 := Nat.ne_of_lt (by rw [g2]; exact E_a.lt)
  have kk2 : Keep h0 h2 [a] := (Keep.refl h0 [a]).ext E2
  have zp2 : n0 ≤ h2.size := Nat.le_trans Z0 kk2.1
  have A2v : own_IA Z h2 b2 [(0 : Int32), (0 : Int32), (0 : Int32), (0 : Int32), (0 : Int32), (0 : Int32), (0 : Int32), (0 : Int32), (0 : Int32), (0 : Int32), (0 : Int32), (0 : Int32), (0 : Int32), (0 : Int32), (0 : Int32), (0 : Int32)] := A2
  refine own_go (fun tgt cont => st2 tgt cont) ?_
  show own_Go p e below s (Q_rm1 Z a p1 h0 n0) 2 24 (T2.setTop (mkF m 9 #[.val (.ref a), .val (.int p1)] [(.ref b2), (.ref a)]))
  have f4 := (F_a_ends.ext E2)
  have f5 := (E_a.ext E2)
  obtain ⟨T3, h3, X3, e3, W3, st3⟩ := putF X2 hx hZ hown (host := "") (Or.inl (hw _ (List.mem_of_getElem? (i := 11) rfl))) Via.refl e2 f4 f5 (Or.inl (hw _ (List.mem_of_getElem? (i := 12) rfl))) (hw _ (List.mem_of_getElem? (i := 2) rfl)) (ty := (.array .int)) (by decide) rfl rfl (g := (mkF m 9 #[.val (.ref a), .val (.int p1)] [(.ref b2), (.ref a)])) rfl rfl (hb hby d1_9)
  have fw3 := f4.same W3
  have N3 := Fr.snoc X3 N0 g_a
  have kk3 : Keep h0 h3 [a] := kk2.wr W3 (Or.inl (List.mem_of_getElem? (i := 0) rfl))
  have zp3 : n0 ≤ h3.size := Nat.le_trans Z0 kk3.1
  refine own_go (fun tgt cont => st3 tgt cont) ?_
  show own_Go p e below s (Q_rm1 Z a p1 h0 n0) 2 24 (T3.setTop (mkF m 12 #[.val (.ref a), .val (.int p1)] []))
  refine own_go (B := T3.setTop (mkF m 32 #[.val (.ref a), .val (.int p1)] [(.int p1), (.ref a)])) (fun tgt cont => ?_) ?_
  · refine XS.iloadN X3.here hx rfl (hb hby d1_12) rfl ?_
    refine XS.ifYes X3.here hx rfl (pc0 := 13) (pc' := 30) rfl (hb hby d1_13) rfl (XT.i0_ge_t hn) (by decide) (by decide) ?_
    refine XS.aloadN X3.here hx rfl (hb hby d1_30) rfl rfl ?_
    refine XS.iloadN X3.here hx rfl (hb hby d1_31) rfl ?_
    exact cont
  have f7 := ((F_a_vertexCount.ext E2).other W3 (Or.inr (slot_ne (t := .int) (t' := (.array .int)) (Or.inr (hw _ (List.mem_of_getElem? (i := 14) rfl))) (Or.inl (hw _ (List.mem_of_getElem? (i := 12) rfl))) (by decide) (by decide) (by decide))))
  have f8 := (f5.wr W3)
  obtain ⟨T6, h6, X6, e6, W6, st6⟩ := putF X3 hx hZ hown (host := "") (Or.inl (hw _ (List.mem_of_getElem? (i := 13) rfl))) Via.refl e3 f7 f8 (Or.inr ⟨(hw _ (List.mem_of_getElem? (i := 14) rfl)), rfl, hnm⟩) (hw _ (List.mem_of_getElem? (i := 2) rfl)) (ty := .int) (by decide) rfl rfl (g := (mkF m 32 #[.val (.ref a), .val (.int p1)] [(.int p1), (.ref a)])) rfl rfl (hb hby d1_32)
  have fw6 := f7.same W6
  have N6 := Fr.snoc X6 N3 g_a
  have kk6 : Keep h0 h6 [a] := kk3.wr W6 (Or.inl (List.mem_of_getElem? (i := 0) rfl))
  have zp6 : n0 ≤ h6.size := Nat.le_trans Z0 kk6.1
  refine own_go (fun tgt cont => st6 tgt cont) ?_
  show own_Go p e below s (Q_rm1 Z a p1 h0 n0) 2 24 (T6.setTop (mkF m 35 #[.val (.ref a), .val (.int p1)] []))
  refine own_go (B := T6.setTop (mkF m 37 #[.val (.ref a), .val (.int p1)] [(.int p1), (.ref a)])) (fun tgt cont => ?_) ?_
  · refine XS.aloadN X6.here hx rfl (hb hby d1_35) rfl rfl ?_
    refine XS.iloadN X6.here hx rfl (hb hby d1_36) rfl ?_
    exact cont
  have f10 := (f8.wr W6)
  have f11 := ((A2v.other W3 (Ne.symm ne_a_b2)).other W6 (Ne.symm ne_a_b2))
  obtain ⟨T9, h9, X9, e9, E9, A9, AE9, st9⟩ := own_newIA X6 hx hZ (hw _ (List.mem_of_getElem? (i := 10) rfl)) e6 (g := (mkF m 37 #[.val (.ref a), .val (.int p1)] [(.int p1), (.ref a)])) rfl (hb hby d1_37) rfl hn (cap := 8) h8 (by decide) (by decide) (by decide)
  obtain ⟨b9, g9⟩ : ∃ z, z = h6.size := ⟨_, rfl⟩
  rw [← g9] at A9 AE9 st9
  have g_b9 : n0 ≤ b9 := Nat.le_trans zp6 (Nat.le_of_eq g9.symm)
  have sz_b9 : h0.size ≤ b9 := Nat.le_trans kk6.1 (Nat.le_of_eq g9.symm)
  have ne_a_b9 : a ≠ b9 := Nat.ne_of_lt (by rw [g9]; exact f10.lt)
  have ne_b2_b9 : b2 ≠ b9 := Nat.ne_of_lt (by rw [g9]; exact f11.lt)
  have kk9 : Keep h0 h9 [a] := kk6.ext E9
  have zp9 : n0 ≤ h9.size := Nat.le_trans Z0 kk9.1
  refine own_go (fun tgt cont => st9 tgt cont) ?_
  show own_Go p e below s (Q_rm1 Z a p1 h0 n0) 2 24 (T9.setTop (mkF m 39 #[.val (.ref a), .val (.int p1)] [(.ref b9), (.ref a)]))
  have f13 := ((((F_a_degree.ext E2).other W3 (Or.inr (slot_ne (t := (.array .int)) (t' := (.array .int)) (Or.inr (hw _ (List.mem_of_getElem? (i := 16) rfl))) (Or.inl (hw _ (List.mem_of_getElem? (i := 12) rfl))) (by decide) (by decide) (by decide)))).other W6 (Or.inr (slot_ne (t := (.array .int)) (t' := .int) (Or.inr (hw _ (List.mem_of_getElem? (i := 16) rfl))) (Or.inr (hw _ (List.mem_of_getElem? (i := 14) rfl))) (by decide) (by decide) (by decide)))).ext E9)
  have f14 := (f10.ext E9)
  obtain ⟨T12, h12, X12, e12, W12, st12⟩ := putF X9 hx hZ hown (host := "") (Or.inl (hw _ (List.mem_of_getElem? (i := 15) rfl))) Via.refl e9 f13 f14 (Or.inr ⟨(hw _ (List.mem_of_getElem? (i := 16) rfl)), rfl, hnm⟩) (hw _ (List.mem_of_getElem? (i := 2) rfl)) (ty := (.array .int)) (by decide) rfl rfl (g := (mkF m 39 #[.val (.ref a), .val (.int p1)] [(.ref b9), (.ref a)])) rfl rfl (hb hby d1_39)
  have fw12 := f13.same W12
  have N12 := Fr.snoc X12 N6 g_a
  have kk12 : Keep h0 h12 [a] := kk9.wr W12 (Or.inl (List.mem_of_getElem? (i := 0) rfl))
  have zp12 : n0 ≤ h12.size := Nat.le_trans Z0 kk12.1
  refine own_go (fun tgt cont => st12 tgt cont) ?_
  show own_Go p e below s (Q_rm1 Z a p1 h0 n0) 2 24 (T12.setTop (mkF m 42 #[.val (.ref a), .val (.int p1)] []))
  refine own_end X12 (v := none) (fun _ => rfl) hlk ?_ (by decide) (by decide) (fun fs hl => X12.returnOut hx Bd.returns (hb hby d1_42) hl)
  have f15 := (f14.wr W12)
  have f16 := ((fw6.ext E9).other W12 (Or.inr (slot_ne (t := .int) (t' := (.array .int)) (Or.inr (hw _ (List.mem_of_getElem? (i := 14) rfl))) (Or.inr (hw _ (List.mem_of_getElem? (i := 16) rfl))) (by decide) (by decide) (by decide))))
  have f17 := (((fw3.other W6 (Or.inr (slot_ne (t := (.array .int)) (t' := .int) (Or.inl (hw _ (List.mem_of_getElem? (i := 12) rfl))) (Or.inr (hw _ (List.mem_of_getElem? (i := 14) rfl))) (by decide) (by decide) (by decide)))).ext E9).other W12 (Or.inr (slot_ne (t := (.array .int)) (t' := (.array .int)) (Or.inl (hw _ (List.mem_of_getElem? (i := 12) rfl))) (Or.inr (hw _ (List.mem_of_getElem? (i := 16) rfl))) (by decide) (by decide) (by decide))))
  have f18 := (((((F_a_edgeCount.ext E2).other W3 (Or.inr (slot_ne (t := .int) (t' := (.array .int)) (Or.inl (hw _ (List.mem_of_getElem? (i := 36) rfl))) (Or.inl (hw _ (List.mem_of_getElem? (i := 12) rfl))) (by decide) (by decide) (by decide)))).other W6 (Or.inr (slot_ne (t := .int) (t' := .int) (Or.inl (hw _ (List.mem_of_getElem? (i := 36) rfl))) (Or.inr (hw _ (List.mem_of_getElem? (i := 14) rfl))) (by decide) (by decide) (by decide)))).ext E9).other W12 (Or.inr (slot_ne (t := .int) (t' := (.array .int)) (Or.inl (hw _ (List.mem_of_getElem? (i := 36) rfl))) (Or.inr (hw _ (List.mem_of_getElem? (i := 16) rfl))) (by decide) (by decide) (by decide))))
  have f19 := (A9.other W12 (Ne.symm ne_a_b9))
  have f20 := (AE9.wr W12)
  have f21 := ((f11.ext E9).other W12 (Ne.symm ne_a_b2))
  have f22 := ((((AE2.wr W3).wr W6).ext E9).wr W12)
  rw [e12]
  exact ⟨_, _, rfl, N12, kk12, f15, f16, fw12, f17, f18, sz_b9, (by unfold own_bi_degree; exact f19), f20, sz_b2, (by unfold own_bi_ends; exact f21), f22, (Ne.symm ne_b2_b9)⟩
theorem own_cpM {vs : List Int32} {q : Int32} (hn : ¬ q < 0) (hs : vs.length < 2147483648) : ¬ own_min (Int32.ofNat vs.length) q < 0 ∧ (own_min (Int32.ofNat vs.length) q).toNatClampNeg ≤ vs.length ∧ (own_min (Int32.ofNat vs.length) q).toNatClampNeg ≤ q.toNatClampNeg := by
  have e0 : (0 : Int32).toInt = 0 := rfl
  have t := own_toI hs
  unfold own_min
  simp only [Int32.lt_iff_toInt_lt, Int32.toNatClampNeg] at *
  rw [e0] at *
  split <;> omega
def own_cof_l (p1 : Int32) (vs : List Int32) : List Int32 := (vs.take (own_min (Int32.ofNat vs.length) p1).toNatClampNeg ++ (List.replicate p1.toNatClampNeg 0).drop (own_min (Int32.ofNat vs.length) p1).toNatClampNeg)
def Q_rm8 (Z : State) (a : Addr) (p1 : Int32) (vs : List Int32) (h0 : Heap) (n0 : Nat) (v : Option Value) (h : Heap) (L : List Loc) : Prop := ∃ b : Addr, v = some (.ref b) ∧ Fr n0 L ∧ Keep h0 h [] ∧ h0.size ≤ b ∧ own_IA Z h b (own_cof_l p1 vs) ∧ Exa Z h b "[I"
theorem own_pn3 : plainName "java/util/Arrays" = true := by first | (simp [plainName, overriddenIn]; done) | decide +kernel
theorem own_pd1 : parseMethodDescriptor "(II)I" = some ⟨[.int, .int], some .int⟩ := by decide +kernel
theorem d8_0 : decode jdk_65_method_123_code 0 = .ok (.iload_n 1, 1) := by decide +kernel
theorem d8_1 : decode jdk_65_method_123_code 1 = .ok (.aload_n 0, 1) := by decide +kernel
theorem d8_2 : decode jdk_65_method_123_code 2 = .ok (.arraylength, 1) := by decide +kernel
theorem d8_3 : decode jdk_65_method_123_code 3 = .ok (.if_icmp .ne 11, 3) := by decide +kernel
theorem d8_14 : decode jdk_65_method_123_code 14 = .ok (.iload_n 1, 1) := by decide +kernel
theorem d8_15 : decode jdk_65_method_123_code 15 = .ok (.newarray .int, 2) := by decide +kernel
theorem d8_17 : decode jdk_65_method_123_code 17 = .ok (.astore_n 2, 1) := by decide +kernel
theorem d8_18 : decode jdk_65_method_123_code 18 = .ok (.aload_n 0, 1) := by decide +kernel
theorem d8_19 : decode jdk_65_method_123_code 19 = .ok (.iconst 0, 1) := by decide +kernel
theorem d8_20 : decode jdk_65_method_123_code 20 = .ok (.aload_n 2, 1) := by decide +kernel
theorem d8_21 : decode jdk_65_method_123_code 21 = .ok (.iconst 0, 1) := by decide +kernel
theorem d8_22 : decode jdk_65_method_123_code 22 = .ok (.aload_n 0, 1) := by decide +kernel
theorem d8_23 : decode jdk_65_method_123_code 23 = .ok (.arraylength, 1) := by decide +kernel
theorem d8_24 : decode jdk_65_method_123_code 24 = .ok (.iload_n 1, 1) := by decide +kernel
theorem d8_25 : decode jdk_65_method_123_code 25 = .ok (.invokestatic 304, 3) := by decide +kernel
theorem d8_28 : decode jdk_65_method_123_code 28 = .ok (.invokestatic 150, 3) := by decide +kernel
theorem d8_31 : decode jdk_65_method_123_code 31 = .ok (.aload_n 2, 1) := by decide +kernel
theorem d8_32 : decode jdk_65_method_123_code 32 = .ok (.areturn, 1) := by decide +kernel
set_option maxRecDepth 65536 in
set_option maxHeartbeats 40000000 in
theorem rm8 (l : Launch) (Z : State) (a0 : Array Value) (hw : ∀ d ∈ tables_1, d.before a0 Z = true) (ws : List Jvm.Cond) (a : Addr) (p1 : Int32) (vs : List Int32) (h0 : Heap) (n0 : Nat) (Z0 : n0 ≤ h0.size) (A_a : own_IA Z h0 a vs) (hd : ¬ p1 = (Int32.ofNat vs.length)) (hn : ¬ p1 < 0) (h8 : p1.toNatClampNeg ≤ 32) :
    MetFree l (⟨"java/util/Arrays", "copyOf", "([II)[I"⟩ : MethodName) (head1 (Jvm.Cond.code (⟨"java/util/Arrays", "copyOf", "([II)[I"⟩ : MethodName) jdk_65_method_123_code 3 (some (.array .int)) :: ws) ({ frames := 1, cells := 1, slots := 32, locals := 18 } : Room)) (fun aa U => aa = #[(.ref a), (.int p1)] ∧ Z.Warmed39 U.vm ∧ U.heap = h0) (fun _ _ _ _ _ => True) (fun _ U o U' => ∃ v L, o = .returned v ∧ Q_rm8 Z a p1 vs h0 n0 v U'.heap L ∧ FrameEnd U o U' L ({ frames := 1, cells := 1, slots := 32, locals := 18 } : Room).cells ({ frames := 1, cells := 1, slots := 32, locals := 18 } : Room).slots) := by
  refine MetFree.of_bodySF (plainFor_of_name own_pn3) hisR ?_
  intro p e s m args below meth c s₁ Bd hml0 hP hK
  obtain ⟨rfl, hZ, hh⟩ := hP
  have hx := Bd.exec
  have hby := Bd.bytes
  have hml : c.maxLocals = 3 := hml0
  have hlk : meth.locks = false := BodyLoose.notSynchronized Bd
  have hown : s.vm.findClass "java/util/Arrays" = some m.cls := findClass_of_methodNamed Bd.named
  have hnm := (name_of_methodNamed Bd.named Bd.method).1
  have X0 : Stand p l e ({ frames := 1, cells := 1, slots := 32, locals := 18 } : Room) s m #[(.ref a), (.int p1)] below meth c s₁ [] 0 0 := Stand.of_body Bd
  have e0 : s₁.heap = h0 := by rw [← hh, Bd.state]; rfl
  have N0 := Fr.nil n0
  show own_Go p e below s (Q_rm8 Z a p1 vs h0 n0) 1 32 (s₁.setTop (entryFrame m #[(.ref a), (.int p1)] 3))
  refine own_go (B := s₁.setTop (mkF m 0 #[.val (.ref a), .val (.int p1), .unset] [])) (fun tgt cont => (XT.entry rfl).trans cont) ?_
  refine own_go (B := s₁.setTop (mkF m 15 #[.val (.ref a), .val (.int p1), .unset] [(.int p1)])) (fun tgt cont => ?_) ?_
  · refine XS.iloadN X0.here hx rfl (hb hby d8_0) rfl ?_
    refine XS.aloadN X0.here hx rfl (hb hby d8_1) rfl rfl ?_
    refine own_lenIA X0 hx hZ e0 A_a (g := (mkF m 2 #[.val (.ref a), .val (.int p1), .unset] [(.ref a), (.int p1)])) rfl rfl (hb hby d8_2) ?_
    refine XS.icmpYes X0.here hx rfl (pc0 := 3) (pc' := 14) rfl (hb hby d8_3) rfl (XT.ii_ne_t hd) (by decide) (by decide) ?_
    refine XS.iloadN X0.here hx rfl (hb hby d8_14) rfl ?_
    exact cont
  obtain ⟨T1, h1, X1, e1, E1, A1, AE1, st1⟩ := own_newIA X0 hx hZ (hw _ (List.mem_of_getElem? (i := 10) rfl)) e0 (g := (mkF m 15 #[.val (.ref a), .val (.int p1), .unset] [(.int p1)])) rfl (hb hby d8_15) rfl hn (cap := 32) h8 (by decide) (by decide) (by decide)
  obtain ⟨b1, g1⟩ : ∃ z, z = h0.size := ⟨_, rfl⟩
  rw [← g1] at A1 AE1 st1
  have g_b1 : n0 ≤ b1 := Nat.le_trans Z0 (Nat.le_of_eq g1.symm)
  have sz_b1 : h0.size ≤ b1 := Nat.le_trans (Keep.refl h0 []).1 (Nat.le_of_eq g1.symm)
  have ne_a_b1 : a ≠ b1 := Nat.ne_of_lt (by rw [g1]; exact A_a.lt)
  have kk1 : Keep h0 h1 [] := (Keep.refl h0 []).ext E1
  have zp1 : n0 ≤ h1.size := Nat.le_trans Z0 kk1.1
  refine own_go (fun tgt cont => st1 tgt cont) ?_
  show own_Go p e below s (Q_rm8 Z a p1 vs h0 n0) 1 32 (T1.setTop (mkF m 17 #[.val (.ref a), .val (.int p1), .unset] [(.ref b1)]))
  have f2 := (A_a.ext E1)
  refine own_go (B := T1.setTop (mkF m 25 #[.val (.ref a), .val (.int p1), .val (.ref b1)] [(.int p1), (.int (Int32.ofNat vs.length)), (.int (0 : Int32)), (.ref b1), (.int (0 : Int32)), (.ref a)])) (fun tgt cont => ?_) ?_
  · refine XS.astoreN X1.here hx rfl (hb hby d8_17) rfl rfl (l' := #[.val (.ref a), .val (.int p1), .val (.ref b1)]) rfl ?_
    refine XS.aloadN X1.here hx rfl (hb hby d8_18) rfl rfl ?_
    refine XT.iconstV X1.here hx rfl (0 : Int32) (hb hby d8_19) rfl ?_
    refine XS.aloadN X1.here hx rfl (hb hby d8_20) rfl rfl ?_
    refine XT.iconstV X1.here hx rfl (0 : Int32) (hb hby d8_21) rfl ?_
    refine XS.aloadN X1.here hx rfl (hb hby d8_22) rfl rfl ?_
    refine own_lenIA X1 hx hZ e1 f2 (g := (mkF m 23 #[.val (.ref a), .val (.int p1), .val (.ref b1)] [(.ref a), (.int (0 : Int32)), (.ref b1), (.int (0 : Int32)), (.ref a)])) rfl rfl (hb hby d8_23) ?_
    refine XS.iloadN X1.here hx rfl (hb hby d8_24) rfl ?_
    exact cont
  -- pc 25: Math.min
  obtain ⟨_, _, ⟨T3, L3, k3, n3⟩, -, X3, ⟨Lc3, hQ3, l3, y3, z3⟩, st3⟩ := Jvm.LawKit.callS X1 hx (y := (⟨"java/lang/Math", "min", "(II)I"⟩ : MethodName)) hown (mvT hZ (hw _ (List.mem_of_getElem? (i := 48) rfl))) (mvT hZ (hw _ (List.mem_of_getElem? (i := 49) rfl))) (mvT hZ (hw _ (List.mem_of_getElem? (i := 42) rfl))) (mvT hZ (hw _ (List.mem_of_getElem? (i := 50) rfl))) (by decide) (backOf (W := 4) (rm9 l Z a0 hw [] (Int32.ofNat vs.length) p1 h1 n0 zp1 ) hZ (hw _ (List.mem_of_getElem? (i := 50) rfl)) (hw _ (List.mem_of_getElem? (i := 42) rfl)) (by decide) (by decide)) (g := (mkF m 25 #[.val (.ref a), .val (.int p1), .val (.ref b1)] [(.int p1), (.int (Int32.ofNat vs.length)), (.int (0 : Int32)), (.ref b1), (.int (0 : Int32)), (.ref a)])) rfl (by rw [hml]; rfl) (argsL := [(.int (Int32.ofNat vs.length)), (.int p1)]) (rest := [(.int (0 : Int32)), (.ref b1), (.int (0 : Int32)), (.ref a)]) (lenOf own_pd1 rfl) rfl (by show 2 * 0 + _ ≤ _; exact Nat.le_of_eq rfl) (hb hby d8_25) (fun _ _ => ⟨rfl, e1, (by decide : 0 + 1 + 0 ≤ _), (by decide : 0 + 32 + 0 ≤ _)⟩)
  dsimp only [Pt.U, Pt.locs, Pt.cells, Pt.slots] at X3 l3 y3 z3 st3 hQ3
  subst y3 z3
  obtain ⟨rfl, N3q, e3⟩ := hQ3
  have N3 : Fr n0 L3 := by rw [l3]; exact Fr.app N0 N3q
  refine own_go (fun tgt cont => st3 tgt cont) ?_
  show own_Go p e below s (Q_rm8 Z a p1 vs h0 n0) 1 32 (T3.setTop (mkF m 28 #[.val (.ref a), .val (.int p1), .val (.ref b1)] [(.int (own_min (Int32.ofNat vs.length) p1)), (.int (0 : Int32)), (.ref b1), (.int (0 : Int32)), (.ref a)]))
  obtain ⟨T4, h4, L4, X4, e4, N4, K4, A4, st4⟩ := own_cpIA X3 hx hZ hown (hw _ (List.mem_of_getElem? (i := 51) rfl)) (hw _ (List.mem_of_getElem? (i := 54) rfl)) (hw _ (List.mem_of_getElem? (i := 52) rfl)) (hw _ (List.mem_of_getElem? (i := 53) rfl)) e3 f2 A1 (nn := (own_min (Int32.ofNat vs.length) p1)) (own_cpM hn A_a.small).1 (own_cpM hn A_a.small).2.1 (by rw [List.length_replicate]; exact (own_cpM hn A_a.small).2.2) N3 g_b1 (g := (mkF m 28 #[.val (.ref a), .val (.int p1), .val (.ref b1)] [(.int (own_min (Int32.ofNat vs.length) p1)), (.int (0 : Int32)), (.ref b1), (.int (0 : Int32)), (.ref a)])) rfl (by rw [hml]; rfl) rfl (hb hby d8_28) (by decide) (W := 0) (by show 2 * 0 + _ ≤ _; exact Nat.le_of_eq rfl) (by decide)
  have kk4 : Keep h0 h4 [] := kk1.trans K4 (allS (Or.inr sz_b1) all0)
  have zp4 : n0 ≤ h4.size := Nat.le_trans Z0 kk4.1
  refine own_go (fun tgt cont => st4 tgt cont) ?_
  show own_Go p e below s (Q_rm8 Z a p1 vs h0 n0) 1 32 (T4.setTop (mkF m 31 #[.val (.ref a), .val (.int p1), .val (.ref b1)] []))
  refine own_go (B := T4.setTop (mkF m 32 #[.val (.ref a), .val (.int p1), .val (.ref b1)] [(.ref b1)])) (fun tgt cont => ?_) ?_
  · refine XS.aloadN X4.here hx rfl (hb hby d8_31) rfl rfl ?_
    exact cont
  refine own_end X4 (v := some (.ref b1)) (fun h => by rw [Bd.returns] at h; cases h) hlk ?_ (by decide) (by decide) (fun fs hl => retOut X4 hx Bd.returns rfl (Or.inr (Or.inr (Or.inr (Or.inr ⟨rfl, rfl, rfl⟩)))) (hb hby d8_32) hl)
  have f5 := (AE1.keep K4)
  rw [e4]
  exact ⟨_, rfl, N4, kk4, sz_b1, (by unfold own_cof_l; exact A4), f5⟩
def own_ae_edgeCount (u_c : Int32) : Int32 := (u_c + (1 : Int32))
def own_ae_ds (p1 : Int32) (p2 : Int32) (ds : List Int32) : List Int32 := ((ds.set p1.toNatClampNeg ((ds.getD p1.toNatClampNeg 0) + (1 : Int32))).set p2.toNatClampNeg (((ds.set p1.toNatClampNeg ((ds.getD p1.toNatClampNeg 0) + (1 : Int32))).getD p2.toNatClampNeg 0) + (1 : Int32)))
def own_ae_es (p1 : Int32) (p2 : Int32) (u_c : Int32) (es : List Int32) : List Int32 := ((es.set ((2 : Int32) * u_c).toNatClampNeg p1).set (((2 : Int32) * u_c) + (1 : Int32)).toNatClampNeg p2)
def Q_rm4_N (Z : State) (a : Addr) (p1 : Int32) (p2 : Int32) (u_v : Int32) (u_d : Addr) (u_e : Addr) (u_c : Int32) (ds : List Int32) (es : List Int32) (h0 : Heap) (n0 : Nat) (v : Option Value) (h : Heap) (L : List Loc) : Prop := v = some (.int u_c) ∧ Fr n0 L ∧ Keep h0 h [a, u_d, u_e] ∧ Exa Z h a "com/example/cyclecut/cyclecut/graph/Graph$Builder" ∧ Fld Z h a "com/example/cyclecut/cyclecut/graph/Graph$Builder" "vertexCount" "I" (.int u_v) ∧ Fld Z h a "com/example/cyclecut/cyclecut/graph/Graph$Builder" "degree" "[I" (.ref u_d) ∧ Fld Z h a "com/example/cyclecut/cyclecut/graph/Graph$Builder" "ends" "[I" (.ref u_e) ∧ Fld Z h a "com/example/cyclecut/cyclecut/graph/Graph$Builder" "edgeCount" "I" (.int (own_ae_edgeCount u_c)) ∧ own_IA Z h u_d (own_ae_ds p1 p2 ds) ∧ own_IA Z h u_e (own_ae_es p1 p2 u_c es)
theorem d4_0 : decode prog_25_method_2_code 0 = .ok (.iload_n 1, 1) := by decide +kernel
theorem d4_1 : decode prog_25_method_2_code 1 = .ok (.aload_n 0, 1) := by decide +kernel
theorem d4_2 : decode prog_25_method_2_code 2 = .ok (.getfield 24, 3) := by decide +kernel
theorem d4_5 : decode prog_25_method_2_code 5 = .ok (.invokestatic 31, 3) := by decide +kernel
theorem d4_8 : decode prog_25_method_2_code 8 = .ok (.pop, 1) := by decide +kernel
theorem d4_9 : decode prog_25_method_2_code 9 = .ok (.iload_n 2, 1) := by decide +kernel
theorem d4_10 : decode prog_25_method_2_code 10 = .ok (.aload_n 0, 1) := by decide +kernel
theorem d4_11 : decode prog_25_method_2_code 11 = .ok (.getfield 24, 3) := by decide +kernel
theorem d4_14 : decode prog_25_method_2_code 14 = .ok (.invokestatic 31, 3) := by decide +kernel
theorem d4_17 : decode prog_25_method_2_code 17 = .ok (.pop, 1) := by decide +kernel
theorem d4_18 : decode prog_25_method_2_code 18 = .ok (.iconst 2, 1) := by decide +kernel
theorem d4_19 : decode prog_25_method_2_code 19 = .ok (.aload_n 0, 1) := by decide +kernel
theorem d4_20 : decode prog_25_method_2_code 20 = .ok (.getfield 37, 3) := by decide +kernel
theorem d4_23 : decode prog_25_method_2_code 23 = .ok (.imul, 1) := by decide +kernel
theorem d4_24 : decode prog_25_method_2_code 24 = .ok (.aload_n 0, 1) := by decide +kernel
theorem d4_25 : decode prog_25_method_2_code 25 = .ok (.getfield 9, 3) := by decide +kernel
theorem d4_28 : decode prog_25_method_2_code 28 = .ok (.arraylength, 1) := by decide +kernel
theorem d4_29 : decode prog_25_method_2_code 29 = .ok (.if_icmp .ne 51, 3) := by decide +kernel
theorem d4_80 : decode prog_25_method_2_code 80 = .ok (.aload_n 0, 1) := by decide +kernel
theorem d4_81 : decode prog_25_method_2_code 81 = .ok (.getfield 9, 3) := by decide +kernel
theorem d4_84 : decode prog_25_method_2_code 84 = .ok (.iconst 2, 1) := by decide +kernel
theorem d4_85 : decode prog_25_method_2_code 85 = .ok (.aload_n 0, 1) := by decide +kernel
theorem d4_86 : decode prog_25_method_2_code 86 = .ok (.getfield 37, 3) := by decide +kernel
theorem d4_89 : decode prog_25_method_2_code 89 = .ok (.imul, 1) := by decide +kernel
theorem d4_90 : decode prog_25_method_2_code 90 = .ok (.iload_n 1, 1) := by decide +kernel
theorem d4_91 : decode prog_25_method_2_code 91 = .ok (.iastore, 1) := by decide +kernel
theorem d4_92 : decode prog_25_method_2_code 92 = .ok (.aload_n 0, 1) := by decide +kernel
theorem d4_93 : decode prog_25_method_2_code 93 = .ok (.getfield 9, 3) := by decide +kernel
theorem d4_96 : decode prog_25_method_2_code 96 = .ok (.iconst 2, 1) := by decide +kernel
theorem d4_97 : decode prog_25_method_2_code 97 = .ok (.aload_n 0, 1) := by decide +kernel
theorem d4_98 : decode prog_25_method_2_code 98 = .ok (.getfield 37, 3) := by decide +kernel
theorem d4_101 : decode prog_25_method_2_code 101 = .ok (.imul, 1) := by decide +kernel
theorem d4_102 : decode prog_25_method_2_code 102 = .ok (.iconst 1, 1) := by decide +kernel
theorem d4_103 : decode prog_25_method_2_code 103 = .ok (.iadd, 1) := by decide +kernel
theorem d4_104 : decode prog_25_method_2_code 104 = .ok (.iload_n 2, 1) := by decide +kernel
theorem d4_105 : decode prog_25_method_2_code 105 = .ok (.iastore, 1) := by decide +kernel
theorem d4_106 : decode prog_25_method_2_code 106 = .ok (.aload_n 0, 1) := by decide +kernel
theorem d4_107 : decode prog_25_method_2_code 107 = .ok (.getfield 28, 3) := by decide +kernel
theorem d4_110 : decode prog_25_method_2_code 110 = .ok (.iload_n 1, 1) := by decide +kernel
theorem d4_111 : decode prog_25_method_2_code 111 = .ok (.dup2, 1) := by decide +kernel
theorem d4_112 : decode prog_25_method_2_code 112 = .ok (.iaload, 1) := by decide +kernel
theorem d4_113 : decode prog_25_method_2_code 113 = .ok (.iconst 1, 1) := by decide +kernel
theorem d4_114 : decode prog_25_method_2_code 114 = .ok (.iadd, 1) := by decide +kernel
theorem d4_115 : decode prog_25_method_2_code 115 = .ok (.iastore, 1) := by decide +kernel
theorem d4_116 : decode prog_25_method_2_code 116 = .ok (.aload_n 0, 1) := by decide +kernel
theorem d4_117 : decode prog_25_method_2_code 117 = .ok (.getfield 28, 3) := by decide +kernel
theorem d4_120 : decode prog_25_method_2_code 120 = .ok (.iload_n 2, 1) := by decide +kernel
theorem d4_121 : decode prog_25_method_2_code 121 = .ok (.dup2, 1) := by decide +kernel
theorem d4_122 : decode prog_25_method_2_code 122 = .ok (.iaload, 1) := by decide +kernel
theorem d4_123 : decode prog_25_method_2_code 123 = .ok (.iconst 1, 1) := by decide +kernel
theorem d4_124 : decode prog_25_method_2_code 124 = .ok (.iadd, 1) := by decide +kernel
theorem d4_125 : decode prog_25_method_2_code 125 = .ok (.iastore, 1) := by decide +kernel
theorem d4_126 : decode prog_25_method_2_code 126 = .ok (.aload_n 0, 1) := by decide +kernel
theorem d4_127 : decode prog_25_method_2_code 127 = .ok (.dup, 1) := by decide +kernel
theorem d4_128 : decode prog_25_method_2_code 128 = .ok (.getfield 37, 3) := by decide +kernel
theorem d4_131 : decode prog_25_method_2_code 131 = .ok (.dup_x1, 1) := by decide +kernel
theorem d4_132 : decode prog_25_method_2_code 132 = .ok (.iconst 1, 1) := by decide +kernel
theorem d4_133 : decode prog_25_method_2_code 133 = .ok (.iadd, 1) := by decide +kernel
theorem d4_134 : decode prog_25_method_2_code 134 = .ok (.putfield 37, 3) := by decide +kernel
theorem d4_137 : decode prog_25_method_2_code 137 = .ok (.ireturn, 1) := by decide +kernel
set_option maxRecDepth 65536 in
set_option maxHeartbeats 40000000 in
theorem rm4_N (l : Launch) (Z : State) (a0 : Array Value) (hw : ∀ d ∈ tables_1, d.before a0 Z = true) (ws : List Jvm.Cond) (a : Addr) (p1 : Int32) (p2 : Int32) (u_v : Int32) (u_d : Addr) (u_e : Addr) (u_c : Int32) (ds : List Int32) (es : List Int32) (h0 : Heap) (n0 : Nat) (Z0 : n0 ≤ h0.size) (E_a : Exa Z h0 a "com/example/cyclecut/cyclecut/graph/Graph$Builder") (F_a_vertexCount : Fld Z h0 a "com/example/cyclecut/cyclecut/graph/Graph$Builder" "vertexCount" "I" (.int u_v)) (F_a_degree : Fld Z h0 a "com/example/cyclecut/cyclecut/graph/Graph$Builder" "degree" "[I" (.ref u_d)) (F_a_ends : Fld Z h0 a "com/example/cyclecut/cyclecut/graph/Graph$Builder" "ends" "[I" (.ref u_e)) (F_a_edgeCount : Fld Z h0 a "com/example/cyclecut/cyclecut/graph/Graph$Builder" "edgeCount" "I" (.int u_c)) (g_a : n0 ≤ a) (A_u_d : own_IA Z h0 u_d ds) (g_u_d : n0 ≤ u_d) (A_u_e : own_IA Z h0 u_e es) (g_u_e : n0 ≤ u_e) (ne_u_d_u_e : u_d ≠ u_e) (a1 : ¬ p1 < 0) (a2 : p1 < u_v) (b1 : ¬ p2 < 0) (b2 : p2 < u_v) (hg : ¬ ((2 : Int32) * u_c) = (Int32.ofNat es.length)) (c1 : ¬ ((2 : Int32) * u_c) < 0 ∧ ((2 : Int32) * u_c).toNatClampNeg < es.length) (c2 : ¬ (((2 : Int32) * u_c) + (1 : Int32)) < 0 ∧ (((2 : Int32) * u_c) + (1 : Int32)).toNatClampNeg < es.length) (d1 : ¬ p1 < 0 ∧ p1.toNatClampNeg < ds.length) (d2 : ¬ p2 < 0 ∧ p2.toNatClampNeg < ds.length) :
    MetFree l (⟨"com/example/cyclecut/cyclecut/graph/Graph$Builder", "addEdge", "(II)I"⟩ : MethodName) (head1 (Jvm.Cond.code (⟨"com/example/cyclecut/cyclecut/graph/Graph$Builder", "addEdge", "(II)I"⟩ : MethodName) prog_25_method_2_code 3 (some .int) :: ws) ({ frames := 2, cells := 0, slots := 0, locals := 27 } : Room)) (fun aa U => aa = #[(.ref a), (.int p1), (.int p2)] ∧ Z.Warmed39 U.vm ∧ U.heap = h0) (fun _ _ _ _ _ => True) (fun _ U o U' => ∃ v L, o = .returned v ∧ Q_rm4_N Z a p1 p2 u_v u_d u_e u_c ds es h0 n0 v U'.heap L ∧ FrameEnd U o U' L ({ frames := 2, cells := 0, slots := 0, locals := 27 } : Room).cells ({ frames := 2, cells := 0, slots := 0, locals := 27 } : Room).slots) := by
  refine MetFree.of_bodySF (plainFor_of_name own_pn2) hisR ?_
  intro p e s m args below meth c s₁ Bd hml0 hP hK
  obtain ⟨rfl, hZ, hh⟩ := hP
  have hx := Bd.exec
  have hby := Bd.bytes
  have hml : c.maxLocals = 3 := hml0
  have hlk : meth.locks = false := BodyLoose.notSynchronized Bd
  have hown : s.vm.findClass "com/example/cyclecut/cyclecut/graph/Graph$Builder" = some m.cls := findClass_of_methodNamed Bd.named
  have hnm := (name_of_methodNamed Bd.named Bd.method).1
  have X0 : Stand p l e ({ frames := 2, cells := 0, slots := 0, locals := 27 } : Room) s m #[(.ref a), (.int p1), (.int p2)] below meth c s₁ [] 0 0 := Stand.of_body Bd
  have e0 : s₁.heap = h0 := by rw [← hh, Bd.state]; rfl
  have N0 := Fr.nil n0
  show own_Go p e below s (Q_rm4_N Z a p1 p2 u_v u_d u_e u_c ds es h0 n0) 0 0 (s₁.setTop (entryFrame m #[(.ref a), (.int p1), (.int p2)] 3))
  refine own_go (B := s₁.setTop (mkF m 0 #[.val (.ref a), .val (.int p1), .val (.int p2)] [])) (fun tgt cont => (XT.entry rfl).trans cont) ?_
  have ne_a_u_d := own_neA E_a (hw _ (List.mem_of_getElem? (i := 2) rfl)) A_u_d.arr
  have ne_a_u_e := own_neA E_a (hw _ (List.mem_of_getElem? (i := 2) rfl)) A_u_e.arr
  refine own_go (B := s₁.setTop (mkF m 2 #[.val (.ref a), .val (.int p1), .val (.int p2)] [(.ref a), (.int p1)])) (fun tgt cont => ?_) ?_
  · refine XS.iloadN X0.here hx rfl (hb hby d4_0) rfl ?_
    refine XS.aloadN X0.here hx rfl (hb hby d4_1) rfl rfl ?_
    exact cont
  obtain ⟨T1, X1, e1, st1⟩ := getF X0 hx hZ hown (host := "") (Or.inl (hw _ (List.mem_of_getElem? (i := 13) rfl))) Via.refl e0 F_a_vertexCount (g := (mkF m 2 #[.val (.ref a), .val (.int p1), .val (.int p2)] [(.ref a), (.int p1)])) rfl rfl (hb hby d4_2)
  refine own_go (fun tgt cont => st1 tgt cont) ?_
  show own_Go p e below s (Q_rm4_N Z a p1 p2 u_v u_d u_e u_c ds es h0 n0) 0 0 (T1.setTop (mkF m 5 #[.val (.ref a), .val (.int p1), .val (.int p2)] [(.int u_v), (.int p1)]))
  -- pc 5: Objects.checkIndex
  obtain ⟨_, _, ⟨T2, L2, k2, n2⟩, -, X2, ⟨Lc2, hQ2, l2, y2, z2⟩, st2⟩ := Jvm.LawKit.callS X1 hx (y := (⟨"java/util/Objects", "checkIndex", "(II)I"⟩ : MethodName)) hown (mvT hZ (hw _ (List.mem_of_getElem? (i := 27) rfl))) (mvT hZ (hw _ (List.mem_of_getElem? (i := 28) rfl))) (mvT hZ (hw _ (List.mem_of_getElem? (i := 29) rfl))) (mvT hZ (hw _ (List.mem_of_getElem? (i := 30) rfl))) (by decide) (backOf (W := 0) (rm5 l Z a0 hw [] p1 u_v h0 n0 Z0 a1 a2) hZ (hw _ (List.mem_of_getElem? (i := 30) rfl)) (hw _ (List.mem_of_getElem? (i := 29) rfl)) (by decide) (by decide)) (g := (mkF m 5 #[.val (.ref a), .val (.int p1), .val (.int p2)] [(.int u_v), (.int p1)])) rfl (by rw [hml]; rfl) (argsL := [(.int p1), (.int u_v)]) (rest := []) (lenOf own_pd1 rfl) rfl (by show 2 * 0 + _ ≤ _; exact Nat.le_of_eq rfl) (hb hby d4_5) (fun _ _ => ⟨rfl, e1, (by decide : 0 + 0 ≤ _), (by decide : 0 + 0 ≤ _)⟩)
  dsimp only [Pt.U, Pt.locs, Pt.cells, Pt.slots] at X2 l2 y2 z2 st2 hQ2
  subst y2 z2
  obtain ⟨rfl, N2q, e2⟩ := hQ2
  have N2 : Fr n0 L2 := by rw [l2]; exact Fr.app N0 N2q
  refine own_go (fun tgt cont => st2 tgt cont) ?_
  show own_Go p e below s (Q_rm4_N Z a p1 p2 u_v u_d u_e u_c ds es h0 n0) 0 0 (T2.setTop (mkF m 8 #[.val (.ref a), .val (.int p1), .val (.int p2)] [(.int (own_cx p1 u_v))]))
  refine own_go (B := T2.setTop (mkF m 11 #[.val (.ref a), .val (.int p1), .val (.int p2)] [(.ref a), (.int p2)])) (fun tgt cont => ?_) ?_
  · refine XS.pop X2.here hx rfl (hb hby d4_8) rfl rfl ?_
    refine XS.iloadN X2.here hx rfl (hb hby d4_9) rfl ?_
    refine XS.aloadN X2.here hx rfl (hb hby d4_10) rfl rfl ?_
    exact cont
  obtain ⟨T3, X3, e3, st3⟩ := getF X2 hx hZ hown (host := "") (Or.inl (hw _ (List.mem_of_getElem? (i := 13) rfl))) Via.refl e2 F_a_vertexCount (g := (mkF m 11 #[.val (.ref a), .val (.int p1), .val (.int p2)] [(.ref a), (.int p2)])) rfl rfl (hb hby d4_11)
  refine own_go (fun tgt cont => st3 tgt cont) ?_
  show own_Go p e below s (Q_rm4_N Z a p1 p2 u_v u_d u_e u_c ds es h0 n0) 0 0 (T3.setTop (mkF m 14 #[.val (.ref a), .val (.int p1), .val (.int p2)] [(.int u_v), (.int p2)]))
  -- pc 14: Objects.checkIndex
  obtain ⟨_, _, ⟨T4, L4, k4, n4⟩, -, X4, ⟨Lc4, hQ4, l4, y4, z4⟩, st4⟩ := Jvm.LawKit.callS X3 hx (y := (⟨"java/util/Objects", "checkIndex", "(II)I"⟩ : MethodName)) hown (mvT hZ (hw _ (List.mem_of_getElem? (i := 27) rfl))) (mvT hZ (hw _ (List.mem_of_getElem? (i := 28) rfl))) (mvT hZ (hw _ (List.mem_of_getElem? (i := 29) rfl))) (mvT hZ (hw _ (List.mem_of_getElem? (i := 30) rfl))) (by decide) (backOf (W := 0) (rm5 l Z a0 hw [] p2 u_v h0 n0 Z0 b1 b2) hZ (hw _ (List.mem_of_getElem? (i := 30) rfl)) (hw _ (List.mem_of_getElem? (i := 29) rfl)) (by decide) (by decide)) (g := (mkF m 14 #[.val (.ref a), .val (.int p1), .val (.int p2)] [(.int u_v), (.int p2)])) rfl (by rw [hml]; rfl) (argsL := [(.int p2), (.int u_v)]) (rest := []) (lenOf own_pd1 rfl) rfl (by show 2 * 0 + _ ≤ _; exact Nat.le_of_eq rfl) (hb hby d4_14) (fun _ _ => ⟨rfl, e3, (by decide : 0 + 0 + 0 ≤ _), (by decide : 0 + 0 + 0 ≤ _)⟩)
  dsimp only [Pt.U, Pt.locs, Pt.cells, Pt.slots] at X4 l4 y4 z4 st4 hQ4
  subst y4 z4
  obtain ⟨rfl, N4q, e4⟩ := hQ4
  have N4 : Fr n0 L4 := by rw [l4]; exact Fr.app N2 N4q
  refine own_go (fun tgt cont => st4 tgt cont) ?_
  show own_Go p e below s (Q_rm4_N Z a p1 p2 u_v u_d u_e u_c ds es h0 n0) 0 0 (T4.setTop (mkF m 17 #[.val (.ref a), .val (.int p1), .val (.int p2)] [(.int (own_cx p2 u_v))]))
  refine own_go (B := T4.setTop (mkF m 20 #[.val (.ref a), .val (.int p1), .val (.int p2)] [(.ref a), (.int (2 : Int32))])) (fun tgt cont => ?_) ?_
  · refine XS.pop X4.here hx rfl (hb hby d4_17) rfl rfl ?_
    refine XT.iconstV X4.here hx rfl (2 : Int32) (hb hby d4_18) rfl ?_
    refine XS.aloadN X4.here hx rfl (hb hby d4_19) rfl rfl ?_
    exact cont
  obtain ⟨T5, X5, e5, st5⟩ := getF X4 hx hZ hown (host := "") (Or.inl (hw _ (List.mem_of_getElem? (i := 35) rfl))) Via.refl e4 F_a_edgeCount (g := (mkF m 20 #[.val (.ref a), .val (.int p1), .val (.int p2)] [(.ref a), (.int (2 : Int32))])) rfl rfl (hb hby d4_20)
  refine own_go (fun tgt cont => st5 tgt cont) ?_
  show own_Go p e below s (Q_rm4_N Z a p1 p2 u_v u_d u_e u_c ds es h0 n0) 0 0 (T5.setTop (mkF m 23 #[.val (.ref a), .val (.int p1), .val (.int p2)] [(.int u_c), (.int (2 : Int32))]))
  refine own_go (B := T5.setTop (mkF m 25 #[.val (.ref a), .val (.int p1), .val (.int p2)] [(.ref a), (.int ((2 : Int32) * u_c))])) (fun tgt cont => ?_) ?_
  · refine XS.imul X5.here hx rfl (hb hby d4_23) rfl ?_
    refine XS.aloadN X5.here hx rfl (hb hby d4_24) rfl rfl ?_
    exact cont
  obtain ⟨T6, X6, e6, st6⟩ := getF X5 hx hZ hown (host := "") (Or.inl (hw _ (List.mem_of_getElem? (i := 11) rfl))) Via.refl e5 F_a_ends (g := (mkF m 25 #[.val (.ref a), .val (.int p1), .val (.int p2)] [(.ref a), (.int ((2 : Int32) * u_c))])) rfl rfl (hb hby d4_25)
  refine own_go (fun tgt cont => st6 tgt cont) ?_
  show own_Go p e below s (Q_rm4_N Z a p1 p2 u_v u_d u_e u_c ds es h0 n0) 0 0 (T6.setTop (mkF m 28 #[.val (.ref a), .val (.int p1), .val (.int p2)] [(.ref u_e), (.int ((2 : Int32) * u_c))]))
  refine own_go (B := T6.setTop (mkF m 81 #[.val (.ref a), .val (.int p1), .val (.int p2)] [(.ref a)])) (fun tgt cont => ?_) ?_
  · refine own_lenIA X6 hx hZ e6 A_u_e (g := (mkF m 28 #[.val (.ref a), .val (.int p1), .val (.int p2)] [(.ref u_e), (.int ((2 : Int32) * u_c))])) rfl rfl (hb hby d4_28) ?_
    refine XS.icmpYes X6.here hx rfl (pc0 := 29) (pc' := 80) rfl (hb hby d4_29) rfl (XT.ii_ne_t hg) (by decide) (by decide) ?_
    refine XS.aloadN X6.here hx rfl (hb hby d4_80) rfl rfl ?_
    exact cont
  obtain ⟨T7, X7, e7, st7⟩ := getF X6 hx hZ hown (host := "") (Or.inl (hw _ (List.mem_of_getElem? (i := 11) rfl))) Via.refl e6 F_a_ends (g := (mkF m 81 #[.val (.ref a), .val (.int p1), .val (.int p2)] [(.ref a)])) rfl rfl (hb hby d4_81)
  refine own_go (fun tgt cont => st7 tgt cont) ?_
  show own_Go p e below s (Q_rm4_N Z a p1 p2 u_v u_d u_e u_c ds es h0 n0) 0 0 (T7.setTop (mkF m 84 #[.val (.ref a), .val (.int p1), .val (.int p2)] [(.ref u_e)]))
  refine own_go (B := T7.setTop (mkF m 86 #[.val (.ref a), .val (.int p1), .val (.int p2)] [(.ref a), (.int (2 : Int32)), (.ref u_e)])) (fun tgt cont => ?_) ?_
  · refine XT.iconstV X7.here hx rfl (2 : Int32) (hb hby d4_84) rfl ?_
    refine XS.aloadN X7.here hx rfl (hb hby d4_85) rfl rfl ?_
    exact cont
  obtain ⟨T8, X8, e8, st8⟩ := getF X7 hx hZ hown (host := "") (Or.inl (hw _ (List.mem_of_getElem? (i := 35) rfl))) Via.refl e7 F_a_edgeCount (g := (mkF m 86 #[.val (.ref a), .val (.int p1), .val (.int p2)] [(.ref a), (.int (2 : Int32)), (.ref u_e)])) rfl rfl (hb hby d4_86)
  refine own_go (fun tgt cont => st8 tgt cont) ?_
  show own_Go p e below s (Q_rm4_N Z a p1 p2 u_v u_d u_e u_c ds es h0 n0) 0 0 (T8.setTop (mkF m 89 #[.val (.ref a), .val (.int p1), .val (.int p2)] [(.int u_c), (.int (2 : Int32)), (.ref u_e)]))
  refine own_go (B := T8.setTop (mkF m 91 #[.val (.ref a), .val (.int p1), .val (.int p2)] [(.int p1), (.int ((2 : Int32) * u_c)), (.ref u_e)])) (fun tgt cont => ?_) ?_
  · refine XS.imul X8.here hx rfl (hb hby d4_89) rfl ?_
    refine XS.iloadN X8.here hx rfl (hb hby d4_90) rfl ?_
    exact cont
  obtain ⟨T9, h9, X9, e9, W9, A9, st9⟩ := own_stIA X8 hx hZ e8 A_u_e (j := ((2 : Int32) * u_c)) (x := p1) c1 (g := (mkF m 91 #[.val (.ref a), .val (.int p1), .val (.int p2)] [(.int p1), (.int ((2 : Int32) * u_c)), (.ref u_e)])) rfl rfl (hb hby d4_91)
  have N9 := Fr.snoc X9 N4 g_u_e
  have kk9 : Keep h0 h9 [a, u_d, u_e] := (Keep.refl h0 [a, u_d, u_e]).wr W9 (Or.inl (List.mem_of_getElem? (i := 2) rfl))
  have zp9 : n0 ≤ h9.size := Nat.le_trans Z0 kk9.1
  refine own_go (fun tgt cont => st9 tgt cont) ?_
  show own_Go p e below s (Q_rm4_N Z a p1 p2 u_v u_d u_e u_c ds es h0 n0) 0 0 (T9.setTop (mkF m 92 #[.val (.ref a), .val (.int p1), .val (.int p2)] []))
  refine own_go (B := T9.setTop (mkF m 93 #[.val (.ref a), .val (.int p1), .val (.int p2)] [(.ref a)])) (fun tgt cont => ?_) ?_
  · refine XS.aloadN X9.here hx rfl (hb hby d4_92) rfl rfl ?_
    exact cont
  have f11 := (F_a_ends.other W9 (Or.inl ne_a_u_e))
  obtain ⟨T10, X10, e10, st10⟩ := getF X9 hx hZ hown (host := "") (Or.inl (hw _ (List.mem_of_getElem? (i := 11) rfl))) Via.refl e9 f11 (g := (mkF m 93 #[.val (.ref a), .val (.int p1), .val (.int p2)] [(.ref a)])) rfl rfl (hb hby d4_93)
  refine own_go (fun tgt cont => st10 tgt cont) ?_
  show own_Go p e below s (Q_rm4_N Z a p1 p2 u_v u_d u_e u_c ds es h0 n0) 0 0 (T10.setTop (mkF m 96 #[.val (.ref a), .val (.int p1), .val (.int p2)] [(.ref u_e)]))
  refine own_go (B := T10.setTop (mkF m 98 #[.val (.ref a), .val (.int p1), .val (.int p2)] [(.ref a), (.int (2 : Int32)), (.ref u_e)])) (fun tgt cont => ?_) ?_
  · refine XT.iconstV X10.here hx rfl (2 : Int32) (hb hby d4_96) rfl ?_
    refine XS.aloadN X10.here hx rfl (hb hby d4_97) rfl rfl ?_
    exact cont
  have f13 := (F_a_edgeCount.other W9 (Or.inl ne_a_u_e))
  obtain ⟨T12, X12, e12, st12⟩ := getF X10 hx hZ hown (host := "") (Or.inl (hw _ (List.mem_of_getElem? (i := 35) rfl))) Via.refl e10 f13 (g := (mkF m 98 #[.val (.ref a), .val (.int p1), .val (.int p2)] [(.ref a), (.int (2 : Int32)), (.ref u_e)])) rfl rfl (hb hby d4_98)
  refine own_go (fun tgt cont => st12 tgt cont) ?_
  show own_Go p e below s (Q_rm4_N Z a p1 p2 u_v u_d u_e u_c ds es h0 n0) 0 0 (T12.setTop (mkF m 101 #[.val (.ref a), .val (.int p1), .val (.int p2)] [(.int u_c), (.int (2 : Int32)), (.ref u_e)]))
  refine own_go (B := T12.setTop (mkF m 105 #[.val (.ref a), .val (.int p1), .val (.int p2)] [(.int p2), (.int (((2 : Int32) * u_c) + (1 : Int32))), (.ref u_e)])) (fun tgt cont => ?_) ?_
  · refine XS.imul X12.here hx rfl (hb hby d4_101) rfl ?_
    refine XT.iconstV X12.here hx rfl (1 : Int32) (hb hby d4_102) rfl ?_
    refine XS.iadd X12.here hx rfl (hb hby d4_103) rfl ?_
    refine XS.iloadN X12.here hx rfl (hb hby d4_104) rfl ?_
    exact cont
  obtain ⟨T14, h14, X14, e14, W14, A14, st14⟩ := own_stIA X12 hx hZ e12 A9 (j := (((2 : Int32) * u_c) + (1 : Int32))) (x := p2) ⟨c2.1, by rw [List.length_set]; exact c2.2⟩ (g := (mkF m 105 #[.val (.ref a), .val (.int p1), .val (.int p2)] [(.int p2), (.int (((2 : Int32) * u_c) + (1 : Int32))), (.ref u_e)])) rfl rfl (hb hby d4_105)
  have N14 := Fr.snoc X14 N9 g_u_e
  have kk14 : Keep h0 h14 [a, u_d, u_e] := kk9.wr W14 (Or.inl (List.mem_of_getElem? (i := 2) rfl))
  have zp14 : n0 ≤ h14.size := Nat.le_trans Z0 kk14.1
  refine own_go (fun tgt cont => st14 tgt cont) ?_
  show own_Go p e below s (Q_rm4_N Z a p1 p2 u_v u_d u_e u_c ds es h0 n0) 0 0 (T14.setTop (mkF m 106 #[.val (.ref a), .val (.int p1), .val (.int p2)] []))
  refine own_go (B := T14.setTop (mkF m 107 #[.val (.ref a), .val (.int p1), .val (.int p2)] [(.ref a)])) (fun tgt cont => ?_) ?_
  · refine XS.aloadN X14.here hx rfl (hb hby d4_106) rfl rfl ?_
    exact cont
  have f16 := ((F_a_degree.other W9 (Or.inl ne_a_u_e)).other W14 (Or.inl ne_a_u_e))
  obtain ⟨T15, X15, e15, st15⟩ := getF X14 hx hZ hown (host := "") (Or.inl (hw _ (List.mem_of_getElem? (i := 15) rfl))) Via.refl e14 f16 (g := (mkF m 107 #[.val (.ref a), .val (.int p1), .val (.int p2)] [(.ref a)])) rfl rfl (hb hby d4_107)
  refine own_go (fun tgt cont => st15 tgt cont) ?_
  show own_Go p e below s (Q_rm4_N Z a p1 p2 u_v u_d u_e u_c ds es h0 n0) 0 0 (T15.setTop (mkF m 110 #[.val (.ref a), .val (.int p1), .val (.int p2)] [(.ref u_d)]))
  have f17 := ((A_u_d.other W9 ne_u_d_u_e).other W14 ne_u_d_u_e)
  refine own_go (B := T15.setTop (mkF m 115 #[.val (.ref a), .val (.int p1), .val (.int p2)] [(.int ((ds.getD p1.toNatClampNeg 0) + (1 : Int32))), (.int p1), (.ref u_d)])) (fun tgt cont => ?_) ?_
  · refine XS.iloadN X15.here hx rfl (hb hby d4_110) rfl ?_
    refine XT.dup2 X15.here hx rfl (hb hby d4_111) rfl rfl rfl ?_
    refine own_ldIA X15 hx hZ e15 f17 (j := p1) d1 (g := (mkF m 112 #[.val (.ref a), .val (.int p1), .val (.int p2)] [(.int p1), (.ref u_d), (.int p1), (.ref u_d)])) rfl rfl (hb hby d4_112) ?_
    refine XT.iconstV X15.here hx rfl (1 : Int32) (hb hby d4_113) rfl ?_
    refine XS.iadd X15.here hx rfl (hb hby d4_114) rfl ?_
    exact cont
  obtain ⟨T18, h18, X18, e18, W18, A18, st18⟩ := own_stIA X15 hx hZ e15 f17 (j := p1) (x := ((ds.getD p1.toNatClampNeg 0) + (1 : Int32))) d1 (g := (mkF m 115 #[.val (.ref a), .val (.int p1), .val (.int p2)] [(.int ((ds.getD p1.toNatClampNeg 0) + (1 : Int32))), (.int p1), (.ref u_d)])) rfl rfl (hb hby d4_115)
  have N18 := Fr.snoc X18 N14 g_u_d
  have kk18 : Keep h0 h18 [a, u_d, u_e] := kk14.wr W18 (Or.inl (List.mem_of_getElem? (i := 1) rfl))
  have zp18 : n0 ≤ h18.size := Nat.le_trans Z0 kk18.1
  refine own_go (fun tgt cont => st18 tgt cont) ?_
  show own_Go p e below s (Q_rm4_N Z a p1 p2 u_v u_d u_e u_c ds es h0 n0) 0 0 (T18.setTop (mkF m 116 #[.val (.ref a), .val (.int p1), .val (.int p2)] []))
  refine own_go (B := T18.setTop (mkF m 117 #[.val (.ref a), .val (.int p1), .val (.int p2)] [(.ref a)])) (fun tgt cont => ?_) ?_
  · refine XS.aloadN X18.here hx rfl (hb hby d4_116) rfl rfl ?_
    exact cont
  have f20 := (f16.other W18 (Or.inl ne_a_u_d))
  obtain ⟨T19, X19, e19, st19⟩ := getF X18 hx hZ hown (host := "") (Or.inl (hw _ (List.mem_of_getElem? (i := 15) rfl))) Via.refl e18 f20 (g := (mkF m 117 #[.val (.ref a), .val (.int p1), .val (.int p2)] [(.ref a)])) rfl rfl (hb hby d4_117)
  refine own_go (fun tgt cont => st19 tgt cont) ?_
  show own_Go p e below s (Q_rm4_N Z a p1 p2 u_v u_d u_e u_c ds es h0 n0) 0 0 (T19.setTop (mkF m 120 #[.val (.ref a), .val (.int p1), .val (.int p2)] [(.ref u_d)]))
  refine own_go (B := T19.setTop (mkF m 125 #[.val (.ref a), .val (.int p1), .val (.int p2)] [(.int (((ds.set p1.toNatClampNeg ((ds.getD p1.toNatClampNeg 0) + (1 : Int32))).getD p2.toNatClampNeg 0) + (1 : Int32))), (.int p2), (.ref u_d)])) (fun tgt cont => ?_) ?_
  · refine XS.iloadN X19.here hx rfl (hb hby d4_120) rfl ?_
    refine XT.dup2 X19.here hx rfl (hb hby d4_121) rfl rfl rfl ?_
    refine own_ldIA X19 hx hZ e19 A18 (j := p2) ⟨d2.1, by rw [List.length_set]; exact d2.2⟩ (g := (mkF m 122 #[.val (.ref a), .val (.int p1), .val (.int p2)] [(.int p2), (.ref u_d), (.int p2), (.ref u_d)])) rfl rfl (hb hby d4_122) ?_
    refine XT.iconstV X19.here hx rfl (1 : Int32) (hb hby d4_123) rfl ?_
    refine XS.iadd X19.here hx rfl (hb hby d4_124) rfl ?_
    exact cont
  obtain ⟨T21, h21, X21, e21, W21, A21, st21⟩ := own_stIA X19 hx hZ e19 A18 (j := p2) (x := (((ds.set p1.toNatClampNeg ((ds.getD p1.toNatClampNeg 0) + (1 : Int32))).getD p2.toNatClampNeg 0) + (1 : Int32))) ⟨d2.1, by rw [List.length_set]; exact d2.2⟩ (g := (mkF m 125 #[.val (.ref a), .val (.int p1), .val (.int p2)] [(.int (((ds.set p1.toNatClampNeg ((ds.getD p1.toNatClampNeg 0) + (1 : Int32))).getD p2.toNatClampNeg 0) + (1 : Int32))), (.int p2), (.ref u_d)])) rfl rfl (hb hby d4_125)
  have N21 := Fr.snoc X21 N18 g_u_d
  have kk21 : Keep h0 h21 [a, u_d, u_e] := kk18.wr W21 (Or.inl (List.mem_of_getElem? (i := 1) rfl))
  have zp21 : n0 ≤ h21.size := Nat.le_trans Z0 kk21.1
  refine own_go (fun tgt cont => st21 tgt cont) ?_
  show own_Go p e below s (Q_rm4_N Z a p1 p2 u_v u_d u_e u_c ds es h0 n0) 0 0 (T21.setTop (mkF m 126 #[.val (.ref a), .val (.int p1), .val (.int p2)] []))
  refine own_go (B := T21.setTop (mkF m 128 #[.val (.ref a), .val (.int p1), .val (.int p2)] [(.ref a), (.ref a)])) (fun tgt cont => ?_) ?_
  · refine XS.aloadN X21.here hx rfl (hb hby d4_126) rfl rfl ?_
    refine XS.dup X21.here hx rfl (hb hby d4_127) rfl rfl ?_
    exact cont
  have f23 := (((f13.other W14 (Or.inl ne_a_u_e)).other W18 (Or.inl ne_a_u_d)).other W21 (Or.inl ne_a_u_d))
  obtain ⟨T22, X22, e22, st22⟩ := getF X21 hx hZ hown (host := "") (Or.inl (hw _ (List.mem_of_getElem? (i := 35) rfl))) Via.refl e21 f23 (g := (mkF m 128 #[.val (.ref a), .val (.int p1), .val (.int p2)] [(.ref a), (.ref a)])) rfl rfl (hb hby d4_128)
  refine own_go (fun tgt cont => st22 tgt cont) ?_
  show own_Go p e below s (Q_rm4_N Z a p1 p2 u_v u_d u_e u_c ds es h0 n0) 0 0 (T22.setTop (mkF m 131 #[.val (.ref a), .val (.int p1), .val (.int p2)] [(.int u_c), (.ref a)]))
  refine own_go (B := T22.setTop (mkF m 134 #[.val (.ref a), .val (.int p1), .val (.int p2)] [(.int (u_c + (1 : Int32))), (.ref a), (.int u_c)])) (fun tgt cont => ?_) ?_
  · refine XS.dupX1 X22.here hx rfl (hb hby d4_131) rfl rfl rfl ?_
    refine XT.iconstV X22.here hx rfl (1 : Int32) (hb hby d4_132) rfl ?_
    refine XS.iadd X22.here hx rfl (hb hby d4_133) rfl ?_
    exact cont
  have f25 := ((((E_a.wr W9).wr W14).wr W18).wr W21)
  obtain ⟨T24, h24, X24, e24, W24, st24⟩ := putF X22 hx hZ hown (host := "") (Or.inl (hw _ (List.mem_of_getElem? (i := 35) rfl))) Via.refl e22 f23 f25 (Or.inl (hw _ (List.mem_of_getElem? (i := 36) rfl))) (hw _ (List.mem_of_getElem? (i := 2) rfl)) (ty := .int) (by decide) rfl rfl (g := (mkF m 134 #[.val (.ref a), .val (.int p1), .val (.int p2)] [(.int (u_c + (1 : Int32))), (.ref a), (.int u_c)])) rfl rfl (hb hby d4_134)
  have fw24 := f23.same W24
  have N24 := Fr.snoc X24 N21 g_a
  have kk24 : Keep h0 h24 [a, u_d, u_e] := kk21.wr W24 (Or.inl (List.mem_of_getElem? (i := 0) rfl))
  have zp24 : n0 ≤ h24.size := Nat.le_trans Z0 kk24.1
  refine own_go (fun tgt cont => st24 tgt cont) ?_
  show own_Go p e below s (Q_rm4_N Z a p1 p2 u_v u_d u_e u_c ds es h0 n0) 0 0 (T24.setTop (mkF m 137 #[.val (.ref a), .val (.int p1), .val (.int p2)] [(.int u_c)]))
  refine own_end X24 (v := some (.int u_c)) (fun h => by rw [Bd.returns] at h; cases h) hlk ?_ (by decide) (by decide) (fun fs hl => retI X24 hx Bd.returns (hb hby d4_137) hl)
  have f26 := (f25.wr W24)
  have f27 := (((((F_a_vertexCount.other W9 (Or.inl ne_a_u_e)).other W14 (Or.inl ne_a_u_e)).other W18 (Or.inl ne_a_u_d)).other W21 (Or.inl ne_a_u_d)).other W24 (Or.inr (slot_ne (t := .int) (t' := .int) (Or.inr (hw _ (List.mem_of_getElem? (i := 14) rfl))) (Or.inl (hw _ (List.mem_of_getElem? (i := 36) rfl))) (by decide) (by decide) (by decide))))
  have f28 := ((f20.other W21 (Or.inl ne_a_u_d)).other W24 (Or.inr (slot_ne (t := (.array .int)) (t' := .int) (Or.inr (hw _ (List.mem_of_getElem? (i := 16) rfl))) (Or.inl (hw _ (List.mem_of_getElem? (i := 36) rfl))) (by decide) (by decide) (by decide))))
  have f29 := ((((f11.other W14 (Or.inl ne_a_u_e)).other W18 (Or.inl ne_a_u_d)).other W21 (Or.inl ne_a_u_d)).other W24 (Or.inr (slot_ne (t := (.array .int)) (t' := .int) (Or.inl (hw _ (List.mem_of_getElem? (i := 12) rfl))) (Or.inl (hw _ (List.mem_of_getElem? (i := 36) rfl))) (by decide) (by decide) (by decide))))
  have f30 := (A21.other W24 (Ne.symm ne_a_u_d))
  have f31 := (((A14.other W18 (Ne.symm ne_u_d_u_e)).other W21 (Ne.symm ne_u_d_u_e)).other W24 (Ne.symm ne_a_u_e))
  rw [e24]
  exact ⟨rfl, N24, kk24, f26, f27, f28, f29, (by unfold own_ae_edgeCount; exact fw24), (by unfold own_ae_ds; exact f30), (by unfold own_ae_es; exact f31)⟩
theorem own_g32 : ((2 : Int32) * ((own_minJ (1073741819 : Int64) ((2 : Int64) * (((8 : Int32)).toInt64))).toInt32)) = (32 : Int32) := by decide
def own_ag_ends (p1 : Int32) (p2 : Int32) (x0 : Int32) (x1 : Int32) (x2 : Int32) (x3 : Int32) (x4 : Int32) (x5 : Int32) (x6 : Int32) (x7 : Int32) (x8 : Int32) (x9 : Int32) (x10 : Int32) (x11 : Int32) (x12 : Int32) (x13 : Int32) (x14 : Int32) (x15 : Int32) : List Int32 := [x0, x1, x2, x3, x4, x5, x6, x7, x8, x9, x10, x11, x12, x13, x14, x15, p1, p2, (0 : Int32), (0 : Int32), (0 : Int32), (0 : Int32), (0 : Int32), (0 : Int32), (0 : Int32), (0 : Int32), (0 : Int32), (0 : Int32), (0 : Int32), (0 : Int32), (0 : Int32), (0 : Int32)]
def own_ag_ds (p1 : Int32) (p2 : Int32) (ds : List Int32) : List Int32 := ((ds.set p1.toNatClampNeg ((ds.getD p1.toNatClampNeg 0) + (1 : Int32))).set p2.toNatClampNeg (((ds.set p1.toNatClampNeg ((ds.getD p1.toNatClampNeg 0) + (1 : Int32))).getD p2.toNatClampNeg 0) + (1 : Int32)))
def Q_rm4_G (Z : State) (a : Addr) (p1 : Int32) (p2 : Int32) (u_v : Int32) (u_d : Addr) (u_e : Addr) (ds : List Int32) (x0 : Int32) (x1 : Int32) (x2 : Int32) (x3 : Int32) (x4 : Int32) (x5 : Int32) (x6 : Int32) (x7 : Int32) (x8 : Int32) (x9 : Int32) (x10 : Int32) (x11 : Int32) (x12 : Int32) (x13 : Int32) (x14 : Int32) (x15 : Int32) (h0 : Heap) (n0 : Nat) (v : Option Value) (h : Heap) (L : List Loc) : Prop := ∃ nb0 : Addr, v = some (.int (8 : Int32)) ∧ Fr n0 L ∧ Keep h0 h [a, u_d] ∧ Exa Z h a "com/example/cyclecut/cyclecut/graph/Graph$Builder" ∧ Fld Z h a "com/example/cyclecut/cyclecut/graph/Graph$Builder" "vertexCount" "I" (.int u_v) ∧ Fld Z h a "com/example/cyclecut/cyclecut/graph/Graph$Builder" "degree" "[I" (.ref u_d) ∧ Fld Z h a "com/example/cyclecut/cyclecut/graph/Graph$Builder" "ends" "[I" (.ref nb0) ∧ Fld Z h a "com/example/cyclecut/cyclecut/graph/Graph$Builder" "edgeCount" "I" (.int (9 : Int32)) ∧ own_IA Z h u_d (own_ag_ds p1 p2 ds) ∧ h0.size ≤ nb0 ∧ own_IA Z h nb0 (own_ag_ends p1 p2 x0 x1 x2 x3 x4 x5 x6 x7 x8 x9 x10 x11 x12 x13 x14 x15) ∧ Exa Z h nb0 "[I"
theorem own_pd2 : parseMethodDescriptor "(JJ)J" = some ⟨[.long, .long], some .long⟩ := by decide +kernel
theorem own_pd3 : parseMethodDescriptor "([II)[I" = some ⟨[(.array .int), .int], some (.array .int)⟩ := by decide +kernel
theorem d4_32 : decode prog_25_method_2_code 32 = .ok (.aload_n 0, 1) := by decide +kernel
theorem d4_33 : decode prog_25_method_2_code 33 = .ok (.getfield 37, 3) := by decide +kernel
theorem d4_36 : decode prog_25_method_2_code 36 = .ok (.ldc 40, 2) := by decide +kernel
theorem d4_38 : decode prog_25_method_2_code 38 = .ok (.if_icmp .ne 13, 3) := by decide +kernel
theorem d4_51 : decode prog_25_method_2_code 51 = .ok (.aload_n 0, 1) := by decide +kernel
theorem d4_52 : decode prog_25_method_2_code 52 = .ok (.aload_n 0, 1) := by decide +kernel
theorem d4_53 : decode prog_25_method_2_code 53 = .ok (.getfield 9, 3) := by decide +kernel
theorem d4_56 : decode prog_25_method_2_code 56 = .ok (.iconst 2, 1) := by decide +kernel
theorem d4_57 : decode prog_25_method_2_code 57 = .ok (.ldc2_w 46, 3) := by decide +kernel
theorem d4_60 : decode prog_25_method_2_code 60 = .ok (.ldc2_w 48, 3) := by decide +kernel
theorem d4_63 : decode prog_25_method_2_code 63 = .ok (.aload_n 0, 1) := by decide +kernel
theorem d4_64 : decode prog_25_method_2_code 64 = .ok (.getfield 37, 3) := by decide +kernel
theorem d4_67 : decode prog_25_method_2_code 67 = .ok (.i2l, 1) := by decide +kernel
theorem d4_68 : decode prog_25_method_2_code 68 = .ok (.lmul, 1) := by decide +kernel
theorem d4_69 : decode prog_25_method_2_code 69 = .ok (.invokestatic 50, 3) := by decide +kernel
theorem d4_72 : decode prog_25_method_2_code 72 = .ok (.l2i, 1) := by decide +kernel
theorem d4_73 : decode prog_25_method_2_code 73 = .ok (.imul, 1) := by decide +kernel
theorem d4_74 : decode prog_25_method_2_code 74 = .ok (.invokestatic 56, 3) := by decide +kernel
theorem d4_77 : decode prog_25_method_2_code 77 = .ok (.putfield 9, 3) := by decide +kernel
set_option maxRecDepth 65536 in
set_option maxHeartbeats 40000000 in
theorem rm4_G (l : Launch) (Z : State) (a0 : Array Value) (hw : ∀ d ∈ tables_1, d.before a0 Z = true) (ws : List Jvm.Cond) (a : Addr) (p1 : Int32) (p2 : Int32) (u_v : Int32) (u_d : Addr) (u_e : Addr) (ds : List Int32) (x0 : Int32) (x1 : Int32) (x2 : Int32) (x3 : Int32) (x4 : Int32) (x5 : Int32) (x6 : Int32) (x7 : Int32) (x8 : Int32) (x9 : Int32) (x10 : Int32) (x11 : Int32) (x12 : Int32) (x13 : Int32) (x14 : Int32) (x15 : Int32) (h0 : Heap) (n0 : Nat) (Z0 : n0 ≤ h0.size) (E_a : Exa Z h0 a "com/example/cyclecut/cyclecut/graph/Graph$Builder") (F_a_vertexCount : Fld Z h0 a "com/example/cyclecut/cyclecut/graph/Graph$Builder" "vertexCount" "I" (.int u_v)) (F_a_degree : Fld Z h0 a "com/example/cyclecut/cyclecut/graph/Graph$Builder" "degree" "[I" (.ref u_d)) (F_a_ends : Fld Z h0 a "com/example/cyclecut/cyclecut/graph/Graph$Builder" "ends" "[I" (.ref u_e)) (F_a_edgeCount : Fld Z h0 a "com/example/cyclecut/cyclecut/graph/Graph$Builder" "edgeCount" "I" (.int (8 : Int32))) (g_a : n0 ≤ a) (A_u_d : own_IA Z h0 u_d ds) (g_u_d : n0 ≤ u_d) (A_u_e : own_IA Z h0 u_e [x0, x1, x2, x3, x4, x5, x6, x7, x8, x9, x10, x11, x12, x13, x14, x15]) (ne_u_d_u_e : u_d ≠ u_e) (a1 : ¬ p1 < 0) (a2 : p1 < u_v) (b1 : ¬ p2 < 0) (b2 : p2 < u_v) (d1 : ¬ p1 < 0 ∧ p1.toNatClampNeg < ds.length) (d2 : ¬ p2 < 0 ∧ p2.toNatClampNeg < ds.length) :
    MetFree l (⟨"com/example/cyclecut/cyclecut/graph/Graph$Builder", "addEdge", "(II)I"⟩ : MethodName) (head1 (Jvm.Cond.code (⟨"com/example/cyclecut/cyclecut/graph/Graph$Builder", "addEdge", "(II)I"⟩ : MethodName) prog_25_method_2_code 3 (some .int) :: ws) ({ frames := 2, cells := 1, slots := 32, locals := 33 } : Room)) (fun aa U => aa = #[(.ref a), (.int p1), (.int p2)] ∧ Z.Warmed39 U.vm ∧ U.heap = h0) (fun _ _ _ _ _ => True) (fun _ U o U' => ∃ v L, o = .returned v ∧ Q_rm4_G Z a p1 p2 u_v u_d u_e ds x0 x1 x2 x3 x4 x5 x6 x7 x8 x9 x10 x11 x12 x13 x14 x15 h0 n0 v U'.heap L ∧ FrameEnd U o U' L ({ frames := 2, cells := 1, slots := 32, locals := 33 } : Room).cells ({ frames := 2, cells := 1, slots := 32, locals := 33 } : Room).slots) := by
  refine MetFree.of_bodySF (plainFor_of_name own_pn2) hisR ?_
  intro p e s m args below meth c s₁ Bd hml0 hP hK
  obtain ⟨rfl, hZ, hh⟩ := hP
  have hx := Bd.exec
  have hby := Bd.bytes
  have hml : c.maxLocals = 3 := hml0
  have hlk : meth.locks = false := BodyLoose.notSynchronized Bd
  have hown : s.vm.findClass "com/example/cyclecut/cyclecut/graph/Graph$Builder" = some m.cls := findClass_of_methodNamed Bd.named
  have hnm := (name_of_methodNamed Bd.named Bd.method).1
  have X0 : Stand p l e ({ frames := 2, cells := 1, slots := 32, locals := 33 } : Room) s m #[(.ref a), (.int p1), (.int p2)] below meth c s₁ [] 0 0 := Stand.of_body Bd
  have e0 : s₁.heap = h0 := by rw [← hh, Bd.state]; rfl
  have N0 := Fr.nil n0
  show own_Go p e below s (Q_rm4_G Z a p1 p2 u_v u_d u_e ds x0 x1 x2 x3 x4 x5 x6 x7 x8 x9 x10 x11 x12 x13 x14 x15 h0 n0) 1 32 (s₁.setTop (entryFrame m #[(.ref a), (.int p1), (.int p2)] 3))
  refine own_go (B := s₁.setTop (mkF m 0 #[.val (.ref a), .val (.int p1), .val (.int p2)] [])) (fun tgt cont => (XT.entry rfl).trans cont) ?_
  have ne_a_u_d := own_neA E_a (hw _ (List.mem_of_getElem? (i := 2) rfl)) A_u_d.arr
  have ne_a_u_e := own_neA E_a (hw _ (List.mem_of_getElem? (i := 2) rfl)) A_u_e.arr
  refine own_go (B := s₁.setTop (mkF m 2 #[.val (.ref a), .val (.int p1), .val (.int p2)] [(.ref a), (.int p1)])) (fun tgt cont => ?_) ?_
  · refine XS.iloadN X0.here hx rfl (hb hby d4_0) rfl ?_
    refine XS.aloadN X0.here hx rfl (hb hby d4_1) rfl rfl ?_
    exact cont
  obtain ⟨T1, X1, e1, st1⟩ := getF X0 hx hZ hown (host := "") (Or.inl (hw _ (List.mem_of_getElem? (i := 13) rfl))) Via.refl e0 F_a_vertexCount (g := (mkF m 2 #[.val (.ref a), .val (.int p1), .val (.int p2)] [(.ref a), (.int p1)])) rfl rfl (hb hby d4_2)
  refine own_go (fun tgt cont => st1 tgt cont) ?_
  show own_Go p e below s (Q_rm4_G Z a p1 p2 u_v u_d u_e ds x0 x1 x2 x3 x4 x5 x6 x7 x8 x9 x10 x11 x12 x13 x14 x15 h0 n0) 1 32 (T1.setTop (mkF m 5 #[.val (.ref a), .val (.int p1), .val (.int p2)] [(.int u_v), (.int p1)]))
  -- pc 5: Objects.checkIndex
  obtain ⟨_, _, ⟨T2, L2, k2, n2⟩, -, X2, ⟨Lc2, hQ2, l2, y2, z2⟩, st2⟩ := Jvm.LawKit.callS X1 hx (y := (⟨"java/util/Objects", "checkIndex", "(II)I"⟩ : MethodName)) hown (mvT hZ (hw _ (List.mem_of_getElem? (i := 27) rfl))) (mvT hZ (hw _ (List.mem_of_getElem? (i := 28) rfl))) (mvT hZ (hw _ (List.mem_of_getElem? (i := 29) rfl))) (mvT hZ (hw _ (List.mem_of_getElem? (i := 30) rfl))) (by decide) (backOf (W := 0) (rm5 l Z a0 hw [] p1 u_v h0 n0 Z0 a1 a2) hZ (hw _ (List.mem_of_getElem? (i := 30) rfl)) (hw _ (List.mem_of_getElem? (i := 29) rfl)) (by decide) (by decide)) (g := (mkF m 5 #[.val (.ref a), .val (.int p1), .val (.int p2)] [(.int u_v), (.int p1)])) rfl (by rw [hml]; rfl) (argsL := [(.int p1), (.int u_v)]) (rest := []) (lenOf own_pd1 rfl) rfl (by show 2 * 0 + _ ≤ _; exact Nat.le_of_eq rfl) (hb hby d4_5) (fun _ _ => ⟨rfl, e1, (by decide : 0 + 0 ≤ _), (by decide : 0 + 0 ≤ _)⟩)
  dsimp only [Pt.U, Pt.locs, Pt.cells, Pt.slots] at X2 l2 y2 z2 st2 hQ2
  subst y2 z2
  obtain ⟨rfl, N2q, e2⟩ := hQ2
  have N2 : Fr n0 L2 := by rw [l2]; exact Fr.app N0 N2q
  refine own_go (fun tgt cont => st2 tgt cont) ?_
  show own_Go p e below s (Q_rm4_G Z a p1 p2 u_v u_d u_e ds x0 x1 x2 x3 x4 x5 x6 x7 x8 x9 x10 x11 x12 x13 x14 x15 h0 n0) 1 32 (T2.setTop (mkF m 8 #[.val (.ref a), .val (.int p1), .val (.int p2)] [(.int (own_cx p1 u_v))]))
  refine own_go (B := T2.setTop (mkF m 11 #[.val (.ref a), .val (.int p1), .val (.int p2)] [(.ref a), (.int p2)])) (fun tgt cont => ?_) ?_
  · refine XS.pop X2.here hx rfl (hb hby d4_8) rfl rfl ?_
    refine XS.iloadN X2.here hx rfl (hb hby d4_9) rfl ?_
    refine XS.aloadN X2.here hx rfl (hb hby d4_10) rfl rfl ?_
    exact cont
  obtain ⟨T3, X3, e3, st3⟩ := getF X2 hx hZ hown (host := "") (Or.inl (hw _ (List.mem_of_getElem? (i := 13) rfl))) Via.refl e2 F_a_vertexCount (g := (mkF m 11 #[.val (.ref a), .val (.int p1), .val (.int p2)] [(.ref a), (.int p2)])) rfl rfl (hb hby d4_11)
  refine own_go (fun tgt cont => st3 tgt cont) ?_
  show own_Go p e below s (Q_rm4_G Z a p1 p2 u_v u_d u_e ds x0 x1 x2 x3 x4 x5 x6 x7 x8 x9 x10 x11 x12 x13 x14 x15 h0 n0) 1 32 (T3.setTop (mkF m 14 #[.val (.ref a), .val (.int p1), .val (.int p2)] [(.int u_v), (.int p2)]))
  -- pc 14: Objects.checkIndex
  obtain ⟨_, _, ⟨T4, L4, k4, n4⟩, -, X4, ⟨Lc4, hQ4, l4, y4, z4⟩, st4⟩ := Jvm.LawKit.callS X3 hx (y := (⟨"java/util/Objects", "checkIndex", "(II)I"⟩ : MethodName)) hown (mvT hZ (hw _ (List.mem_of_getElem? (i := 27) rfl))) (mvT hZ (hw _ (List.mem_of_getElem? (i := 28) rfl))) (mvT hZ (hw _ (List.mem_of_getElem? (i := 29) rfl))) (mvT hZ (hw _ (List.mem_of_getElem? (i := 30) rfl))) (by decide) (backOf (W := 0) (rm5 l Z a0 hw [] p2 u_v h0 n0 Z0 b1 b2) hZ (hw _ (List.mem_of_getElem? (i := 30) rfl)) (hw _ (List.mem_of_getElem? (i := 29) rfl)) (by decide) (by decide)) (g := (mkF m 14 #[.val (.ref a), .val (.int p1), .val (.int p2)] [(.int u_v), (.int p2)])) rfl (by rw [hml]; rfl) (argsL := [(.int p2), (.int u_v)]) (rest := []) (lenOf own_pd1 rfl) rfl (by show 2 * 0 + _ ≤ _; exact Nat.le_of_eq rfl) (hb hby d4_14) (fun _ _ => ⟨rfl, e3, (by decide : 0 + 0 + 0 ≤ _), (by decide : 0 + 0 + 0 ≤ _)⟩)
  dsimp only [Pt.U, Pt.locs, Pt.cells, Pt.slots] at X4 l4 y4 z4 st4 hQ4
  subst y4 z4
  obtain ⟨rfl, N4q, e4⟩ := hQ4
  have N4 : Fr n0 L4 := by rw [l4]; exact Fr.app N2 N4q
  refine own_go (fun tgt cont => st4 tgt cont) ?_
  show own_Go p e below s (Q_rm4_G Z a p1 p2 u_v u_d u_e ds x0 x1 x2 x3 x4 x5 x6 x7 x8 x9 x10 x11 x12 x13 x14 x15 h0 n0) 1 32 (T4.setTop (mkF m 17 #[.val (.ref a), .val (.int p1), .val (.int p2)] [(.int (own_cx p2 u_v))]))
  refine own_go (B := T4.setTop (mkF m 20 #[.val (.ref a), .val (.int p1), .val (.int p2)] [(.ref a), (.int (2 : Int32))])) (fun tgt cont => ?_) ?_
  · refine XS.pop X4.here hx rfl (hb hby d4_17) rfl rfl ?_
    refine XT.iconstV X4.here hx rfl (2 : Int32) (hb hby d4_18) rfl ?_
    refine XS.aloadN X4.here hx rfl (hb hby d4_19) rfl rfl ?_
    exact cont
  obtain ⟨T5, X5, e5, st5⟩ := getF X4 hx hZ hown (host := "") (Or.inl (hw _ (List.mem_of_getElem? (i := 35) rfl))) Via.refl e4 F_a_edgeCount (g := (mkF m 20 #[.val (.ref a), .val (.int p1), .val (.int p2)] [(.ref a), (.int (2 : Int32))])) rfl rfl (hb hby d4_20)
  refine own_go (fun tgt cont => st5 tgt cont) ?_
  show own_Go p e below s (Q_rm4_G Z a p1 p2 u_v u_d u_e ds x0 x1 x2 x3 x4 x5 x6 x7 x8 x9 x10 x11 x12 x13 x14 x15 h0 n0) 1 32 (T5.setTop (mkF m 23 #[.val (.ref a), .val (.int p1), .val (.int p2)] [(.int (8 : Int32)), (.int (2 : Int32))]))
  refine own_go (B := T5.setTop (mkF m 25 #[.val (.ref a), .val (.int p1), .val (.int p2)] [(.ref a), (.int (16 : Int32))])) (fun tgt cont => ?_) ?_
  · refine XS.imul X5.here hx rfl (hb hby d4_23) rfl ?_
    refine XS.aloadN X5.here hx rfl (hb hby d4_24) rfl rfl ?_
    exact cont
  obtain ⟨T6, X6, e6, st6⟩ := getF X5 hx hZ hown (host := "") (Or.inl (hw _ (List.mem_of_getElem? (i := 11) rfl))) Via.refl e5 F_a_ends (g := (mkF m 25 #[.val (.ref a), .val (.int p1), .val (.int p2)] [(.ref a), (.int (16 : Int32))])) rfl rfl (hb hby d4_25)
  refine own_go (fun tgt cont => st6 tgt cont) ?_
  show own_Go p e below s (Q_rm4_G Z a p1 p2 u_v u_d u_e ds x0 x1 x2 x3 x4 x5 x6 x7 x8 x9 x10 x11 x12 x13 x14 x15 h0 n0) 1 32 (T6.setTop (mkF m 28 #[.val (.ref a), .val (.int p1), .val (.int p2)] [(.ref u_e), (.int (16 : Int32))]))
  refine own_go (B := T6.setTop (mkF m 33 #[.val (.ref a), .val (.int p1), .val (.int p2)] [(.ref a)])) (fun tgt cont => ?_) ?_
  · refine own_lenIA X6 hx hZ e6 A_u_e (g := (mkF m 28 #[.val (.ref a), .val (.int p1), .val (.int p2)] [(.ref u_e), (.int (16 : Int32))])) rfl rfl (hb hby d4_28) ?_
    refine XS.icmpNo X6.here hx rfl (hb hby d4_29) rfl (XT.ii_ne_f (by first | decide | exact (show (16 : Int32) = (16 : Int32) from by decide))) ?_
    refine XS.aloadN X6.here hx rfl (hb hby d4_32) rfl rfl ?_
    exact cont
  obtain ⟨T7, X7, e7, st7⟩ := getF X6 hx hZ hown (host := "") (Or.inl (hw _ (List.mem_of_getElem? (i := 35) rfl))) Via.refl e6 F_a_edgeCount (g := (mkF m 33 #[.val (.ref a), .val (.int p1), .val (.int p2)] [(.ref a)])) rfl rfl (hb hby d4_33)
  refine own_go (fun tgt cont => st7 tgt cont) ?_
  show own_Go p e below s (Q_rm4_G Z a p1 p2 u_v u_d u_e ds x0 x1 x2 x3 x4 x5 x6 x7 x8 x9 x10 x11 x12 x13 x14 x15 h0 n0) 1 32 (T7.setTop (mkF m 36 #[.val (.ref a), .val (.int p1), .val (.int p2)] [(.int (8 : Int32))]))
  refine own_go (B := T7.setTop (mkF m 53 #[.val (.ref a), .val (.int p1), .val (.int p2)] [(.ref a), (.ref a)])) (fun tgt cont => ?_) ?_
  · refine Stand.ldcI X7 hx hown (mvT hZ (hw _ (List.mem_of_getElem? (i := 37) rfl))) rfl (hb hby d4_36) ?_
    refine XS.icmpYes X7.here hx rfl (pc0 := 38) (pc' := 51) rfl (hb hby d4_38) rfl (XT.ii_ne_t (by first | decide | exact (show ¬ ((8 : Int32) = (1073741819 : Int32)) from by decide))) (by decide) (by decide) ?_
    refine XS.aloadN X7.here hx rfl (hb hby d4_51) rfl rfl ?_
    refine XS.aloadN X7.here hx rfl (hb hby d4_52) rfl rfl ?_
    exact cont
  obtain ⟨T8, X8, e8, st8⟩ := getF X7 hx hZ hown (host := "") (Or.inl (hw _ (List.mem_of_getElem? (i := 11) rfl))) Via.refl e7 F_a_ends (g := (mkF m 53 #[.val (.ref a), .val (.int p1), .val (.int p2)] [(.ref a), (.ref a)])) rfl rfl (hb hby d4_53)
  refine own_go (fun tgt cont => st8 tgt cont) ?_
  show own_Go p e below s (Q_rm4_G Z a p1 p2 u_v u_d u_e ds x0 x1 x2 x3 x4 x5 x6 x7 x8 x9 x10 x11 x12 x13 x14 x15 h0 n0) 1 32 (T8.setTop (mkF m 56 #[.val (.ref a), .val (.int p1), .val (.int p2)] [(.ref u_e), (.ref a)]))
  refine own_go (B := T8.setTop (mkF m 64 #[.val (.ref a), .val (.int p1), .val (.int p2)] [(.ref a), (.long (2 : Int64)), (.long (1073741819 : Int64)), (.int (2 : Int32)), (.ref u_e), (.ref a)])) (fun tgt cont => ?_) ?_
  · refine XT.iconstV X8.here hx rfl (2 : Int32) (hb hby d4_56) rfl ?_
    refine Stand.ldc2J X8 hx hown (mvT hZ (hw _ (List.mem_of_getElem? (i := 38) rfl))) rfl (hb hby d4_57) ?_
    refine Stand.ldc2J X8 hx hown (mvT hZ (hw _ (List.mem_of_getElem? (i := 39) rfl))) rfl (hb hby d4_60) ?_
    refine XS.aloadN X8.here hx rfl (hb hby d4_63) rfl rfl ?_
    exact cont
  obtain ⟨T9, X9, e9, st9⟩ := getF X8 hx hZ hown (host := "") (Or.inl (hw _ (List.mem_of_getElem? (i := 35) rfl))) Via.refl e8 F_a_edgeCount (g := (mkF m 64 #[.val (.ref a), .val (.int p1), .val (.int p2)] [(.ref a), (.long (2 : Int64)), (.long (1073741819 : Int64)), (.int (2 : Int32)), (.ref u_e), (.ref a)])) rfl rfl (hb hby d4_64)
  refine own_go (fun tgt cont => st9 tgt cont) ?_
  show own_Go p e below s (Q_rm4_G Z a p1 p2 u_v u_d u_e ds x0 x1 x2 x3 x4 x5 x6 x7 x8 x9 x10 x11 x12 x13 x14 x15 h0 n0) 1 32 (T9.setTop (mkF m 67 #[.val (.ref a), .val (.int p1), .val (.int p2)] [(.int (8 : Int32)), (.long (2 : Int64)), (.long (1073741819 : Int64)), (.int (2 : Int32)), (.ref u_e), (.ref a)]))
  refine own_go (B := T9.setTop (mkF m 69 #[.val (.ref a), .val (.int p1), .val (.int p2)] [(.long ((2 : Int64) * ((8 : Int32).toInt64))), (.long (1073741819 : Int64)), (.int (2 : Int32)), (.ref u_e), (.ref a)])) (fun tgt cont => ?_) ?_
  · refine XS.i2l X9.here hx rfl (hb hby d4_67) rfl ?_
    refine XS.lmul X9.here hx rfl (hb hby d4_68) rfl ?_
    exact cont
  -- pc 69: Math.min
  obtain ⟨_, _, ⟨T10, L10, k10, n10⟩, -, X10, ⟨Lc10, hQ10, l10, y10, z10⟩, st10⟩ := Jvm.LawKit.callS X9 hx (y := (⟨"java/lang/Math", "min", "(JJ)J"⟩ : MethodName)) hown (mvT hZ (hw _ (List.mem_of_getElem? (i := 40) rfl))) (mvT hZ (hw _ (List.mem_of_getElem? (i := 41) rfl))) (mvT hZ (hw _ (List.mem_of_getElem? (i := 42) rfl))) (mvT hZ (hw _ (List.mem_of_getElem? (i := 43) rfl))) (by decide) (backOf (W := 3) (rm7 l Z a0 hw [] (1073741819 : Int64) ((2 : Int64) * ((8 : Int32).toInt64)) h0 n0 Z0 ) hZ (hw _ (List.mem_of_getElem? (i := 43) rfl)) (hw _ (List.mem_of_getElem? (i := 42) rfl)) (by decide) (by decide)) (g := (mkF m 69 #[.val (.ref a), .val (.int p1), .val (.int p2)] [(.long ((2 : Int64) * ((8 : Int32).toInt64))), (.long (1073741819 : Int64)), (.int (2 : Int32)), (.ref u_e), (.ref a)])) rfl (by rw [hml]; rfl) (argsL := [(.long (1073741819 : Int64)), (.long ((2 : Int64) * ((8 : Int32).toInt64)))]) (rest := [(.int (2 : Int32)), (.ref u_e), (.ref a)]) (lenOf own_pd2 rfl) rfl (by show 2 * 0 + _ ≤ _; exact Nat.le_of_eq rfl) (hb hby d4_69) (fun _ _ => ⟨rfl, e9, (by decide : 0 + 0 + 0 + 0 ≤ _), (by decide : 0 + 0 + 0 + 0 ≤ _)⟩)
  dsimp only [Pt.U, Pt.locs, Pt.cells, Pt.slots] at X10 l10 y10 z10 st10 hQ10
  subst y10 z10
  obtain ⟨rfl, N10q, e10⟩ := hQ10
  have N10 : Fr n0 L10 := by rw [l10]; exact Fr.app N4 N10q
  refine own_go (fun tgt cont => st10 tgt cont) ?_
  show own_Go p e below s (Q_rm4_G Z a p1 p2 u_v u_d u_e ds x0 x1 x2 x3 x4 x5 x6 x7 x8 x9 x10 x11 x12 x13 x14 x15 h0 n0) 1 32 (T10.setTop (mkF m 72 #[.val (.ref a), .val (.int p1), .val (.int p2)] [(.long (own_minJ (1073741819 : Int64) ((2 : Int64) * ((8 : Int32).toInt64)))), (.int (2 : Int32)), (.ref u_e), (.ref a)]))
  refine own_go (B := T10.setTop (mkF m 74 #[.val (.ref a), .val (.int p1), .val (.int p2)] [(.int ((2 : Int32) * ((own_minJ (1073741819 : Int64) ((2 : Int64) * ((8 : Int32).toInt64))).toInt32))), (.ref u_e), (.ref a)])) (fun tgt cont => ?_) ?_
  · refine XS.l2i X10.here hx rfl (hb hby d4_72) rfl ?_
    refine XS.imul X10.here hx rfl (hb hby d4_73) rfl ?_
    exact cont
  rw [own_g32]
  -- pc 74: Arrays.copyOf
  obtain ⟨_, _, ⟨T11, L11, k11, n11⟩, -, X11, ⟨Lc11, hQ11, l11, y11, z11⟩, st11⟩ := Jvm.LawKit.callS X10 hx (y := (⟨"java/util/Arrays", "copyOf", "([II)[I"⟩ : MethodName)) hown (mvT hZ (hw _ (List.mem_of_getElem? (i := 44) rfl))) (mvT hZ (hw _ (List.mem_of_getElem? (i := 45) rfl))) (mvT hZ (hw _ (List.mem_of_getElem? (i := 46) rfl))) (mvT hZ (hw _ (List.mem_of_getElem? (i := 47) rfl))) (by decide) (backOf (W := 1) (rm8 l Z a0 hw [] u_e (32 : Int32) ([x0, x1, x2, x3, x4, x5, x6, x7, x8, x9, x10, x11, x12, x13, x14, x15]) h0 n0 Z0 A_u_e (by show ¬ (32 : Int32) = Int32.ofNat 16; decide) (by decide) (by decide)) hZ (hw _ (List.mem_of_getElem? (i := 47) rfl)) (hw _ (List.mem_of_getElem? (i := 46) rfl)) (by decide) (by decide)) (g := (mkF m 74 #[.val (.ref a), .val (.int p1), .val (.int p2)] [(.int (32 : Int32)), (.ref u_e), (.ref a)])) rfl (by rw [hml]; rfl) (argsL := [(.ref u_e), (.int (32 : Int32))]) (rest := [(.ref a)]) (lenOf own_pd3 rfl) rfl (by show 2 * 0 + _ ≤ _; exact Nat.le_of_eq rfl) (hb hby d4_74) (fun _ _ => ⟨rfl, e10, (by decide : 0 + 0 + 0 + 0 + 1 ≤ _), (by decide : 0 + 0 + 0 + 0 + 32 ≤ _)⟩)
  dsimp only [Pt.U, Pt.locs, Pt.cells, Pt.slots] at X11 l11 y11 z11 st11 hQ11
  subst y11 z11
  obtain ⟨b11, rfl, N11q, K11, gb11, ab11, eb11⟩ := hQ11
  have N11 : Fr n0 L11 := by rw [l11]; exact Fr.app N10 N11q
  have g_b11 : n0 ≤ b11 := Nat.le_trans Z0 gb11
  have sz_b11 : h0.size ≤ b11 := Nat.le_trans (Keep.refl h0 [a, u_d]).1 gb11
  have ne_a_b11 : a ≠ b11 := Nat.ne_of_lt (Nat.lt_of_lt_of_le E_a.lt gb11)
  have ne_u_d_b11 : u_d ≠ b11 := Nat.ne_of_lt (Nat.lt_of_lt_of_le A_u_d.lt gb11)
  have ne_u_e_b11 : u_e ≠ b11 := Nat.ne_of_lt (Nat.lt_of_lt_of_le A_u_e.lt gb11)
  have kk11 : Keep h0 T11.heap [a, u_d] := (Keep.refl h0 [a, u_d]).trans K11 all0
  have zp11 : n0 ≤ T11.heap.size := Nat.le_trans Z0 kk11.1
  refine own_go (fun tgt cont => st11 tgt cont) ?_
  show own_Go p e below s (Q_rm4_G Z a p1 p2 u_v u_d u_e ds x0 x1 x2 x3 x4 x5 x6 x7 x8 x9 x10 x11 x12 x13 x14 x15 h0 n0) 1 32 (T11.setTop (mkF m 77 #[.val (.ref a), .val (.int p1), .val (.int p2)] [(.ref b11), (.ref a)]))
  have ag_b11 : own_IA Z T11.heap b11 [x0, x1, x2, x3, x4, x5, x6, x7, x8, x9, x10, x11, x12, x13, x14, x15, (0 : Int32), (0 : Int32), (0 : Int32), (0 : Int32), (0 : Int32), (0 : Int32), (0 : Int32), (0 : Int32), (0 : Int32), (0 : Int32), (0 : Int32), (0 : Int32), (0 : Int32), (0 : Int32), (0 : Int32), (0 : Int32)] := ab11.cong rfl
  have f13 := (F_a_ends.keep K11 nin0)
  have f14 := (E_a.keep K11)
  obtain ⟨T12, h12, X12, e12, W12, st12⟩ := putF X11 hx hZ hown (host := "") (Or.inl (hw _ (List.mem_of_getElem? (i := 11) rfl))) Via.refl rfl f13 f14 (Or.inl (hw _ (List.mem_of_getElem? (i := 12) rfl))) (hw _ (List.mem_of_getElem? (i := 2) rfl)) (ty := (.array .int)) (by decide) rfl rfl (g := (mkF m 77 #[.val (.ref a), .val (.int p1), .val (.int p2)] [(.ref b11), (.ref a)])) rfl rfl (hb hby d4_77)
  have fw12 := f13.same W12
  have N12 := Fr.snoc X12 N11 g_a
  have kk12 : Keep h0 h12 [a, u_d] := kk11.wr W12 (Or.inl (List.mem_of_getElem? (i := 0) rfl))
  have zp12 : n0 ≤ h12.size := Nat.le_trans Z0 kk12.1
  refine own_go (fun tgt cont => st12 tgt cont) ?_
  show own_Go p e below s (Q_rm4_G Z a p1 p2 u_v u_d u_e ds x0 x1 x2 x3 x4 x5 x6 x7 x8 x9 x10 x11 x12 x13 x14 x15 h0 n0) 1 32 (T12.setTop (mkF m 80 #[.val (.ref a), .val (.int p1), .val (.int p2)] []))
  refine own_go (B := T12.setTop (mkF m 81 #[.val (.ref a), .val (.int p1), .val (.int p2)] [(.ref a)])) (fun tgt cont => ?_) ?_
  · refine XS.aloadN X12.here hx rfl (hb hby d4_80) rfl rfl ?_
    exact cont
  obtain ⟨T15, X15, e15, st15⟩ := getF X12 hx hZ hown (host := "") (Or.inl (hw _ (List.mem_of_getElem? (i := 11) rfl))) Via.refl e12 fw12 (g := (mkF m 81 #[.val (.ref a), .val (.int p1), .val (.int p2)] [(.ref a)])) rfl rfl (hb hby d4_81)
  refine own_go (fun tgt cont => st15 tgt cont) ?_
  show own_Go p e below s (Q_rm4_G Z a p1 p2 u_v u_d u_e ds x0 x1 x2 x3 x4 x5 x6 x7 x8 x9 x10 x11 x12 x13 x14 x15 h0 n0) 1 32 (T15.setTop (mkF m 84 #[.val (.ref a), .val (.int p1), .val (.int p2)] [(.ref b11)]))
  refine own_go (B := T15.setTop (mkF m 86 #[.val (.ref a), .val (.int p1), .val (.int p2)] [(.ref a), (.int (2 : Int32)), (.ref b11)])) (fun tgt cont => ?_) ?_
  · refine XT.iconstV X15.here hx rfl (2 : Int32) (hb hby d4_84) rfl ?_
    refine XS.aloadN X15.here hx rfl (hb hby d4_85) rfl rfl ?_
    exact cont
  have f17 := ((F_a_edgeCount.keep K11 nin0).other W12 (Or.inr (slot_ne (t := .int) (t' := (.array .int)) (Or.inl (hw _ (List.mem_of_getElem? (i := 36) rfl))) (Or.inl (hw _ (List.mem_of_getElem? (i := 12) rfl))) (by decide) (by decide) (by decide))))
  obtain ⟨T16, X16, e16, st16⟩ := getF X15 hx hZ hown (host := "") (Or.inl (hw _ (List.mem_of_getElem? (i := 35) rfl))) Via.refl e15 f17 (g := (mkF m 86 #[.val (.ref a), .val (.int p1), .val (.int p2)] [(.ref a), (.int (2 : Int32)), (.ref b11)])) rfl rfl (hb hby d4_86)
  refine own_go (fun tgt cont => st16 tgt cont) ?_
  show own_Go p e below s (Q_rm4_G Z a p1 p2 u_v u_d u_e ds x0 x1 x2 x3 x4 x5 x6 x7 x8 x9 x10 x11 x12 x13 x14 x15 h0 n0) 1 32 (T16.setTop (mkF m 89 #[.val (.ref a), .val (.int p1), .val (.int p2)] [(.int (8 : Int32)), (.int (2 : Int32)), (.ref b11)]))
  refine own_go (B := T16.setTop (mkF m 91 #[.val (.ref a), .val (.int p1), .val (.int p2)] [(.int p1), (.int (16 : Int32)), (.ref b11)])) (fun tgt cont => ?_) ?_
  · refine XS.imul X16.here hx rfl (hb hby d4_89) rfl ?_
    refine XS.iloadN X16.here hx rfl (hb hby d4_90) rfl ?_
    exact cont
  have f18 := (ag_b11.other W12 (Ne.symm ne_a_b11))
  obtain ⟨T19, h19, X19, e19, W19, A19, st19⟩ := own_stIA X16 hx hZ e16 f18 (j := (16 : Int32)) (x := p1) ⟨by decide, Nat.le_of_ble_eq_true rfl⟩ (g := (mkF m 91 #[.val (.ref a), .val (.int p1), .val (.int p2)] [(.int p1), (.int (16 : Int32)), (.ref b11)])) rfl rfl (hb hby d4_91)
  have N19 := Fr.snoc X19 N12 g_b11
  have kk19 : Keep h0 h19 [a, u_d] := kk12.wr W19 (Or.inr sz_b11)
  have zp19 : n0 ≤ h19.size := Nat.le_trans Z0 kk19.1
  have A19v : own_IA Z h19 b11 [x0, x1, x2, x3, x4, x5, x6, x7, x8, x9, x10, x11, x12, x13, x14, x15, p1, (0 : Int32), (0 : Int32), (0 : Int32), (0 : Int32), (0 : Int32), (0 : Int32), (0 : Int32), (0 : Int32), (0 : Int32), (0 : Int32), (0 : Int32), (0 : Int32), (0 : Int32), (0 : Int32), (0 : Int32)] := A19
  refine own_go (fun tgt cont => st19 tgt cont) ?_
  show own_Go p e below s (Q_rm4_G Z a p1 p2 u_v u_d u_e ds x0 x1 x2 x3 x4 x5 x6 x7 x8 x9 x10 x11 x12 x13 x14 x15 h0 n0) 1 32 (T19.setTop (mkF m 92 #[.val (.ref a), .val (.int p1), .val (.int p2)] []))
  refine own_go (B := T19.setTop (mkF m 93 #[.val (.ref a), .val (.int p1), .val (.int p2)] [(.ref a)])) (fun tgt cont => ?_) ?_
  · refine XS.aloadN X19.here hx rfl (hb hby d4_92) rfl rfl ?_
    exact cont
  have f21 := (fw12.other W19 (Or.inl ne_a_b11))
  obtain ⟨T20, X20, e20, st20⟩ := getF X19 hx hZ hown (host := "") (Or.inl (hw _ (List.mem_of_getElem? (i := 11) rfl))) Via.refl e19 f21 (g := (mkF m 93 #[.val (.ref a), .val (.int p1), .val (.int p2)] [(.ref a)])) rfl rfl (hb hby d4_93)
  refine own_go (fun tgt cont => st20 tgt cont) ?_
  show own_Go p e below s (Q_rm4_G Z a p1 p2 u_v u_d u_e ds x0 x1 x2 x3 x4 x5 x6 x7 x8 x9 x10 x11 x12 x13 x14 x15 h0 n0) 1 32 (T20.setTop (mkF m 96 #[.val (.ref a), .val (.int p1), .val (.int p2)] [(.ref b11)]))
  refine own_go (B := T20.setTop (mkF m 98 #[.val (.ref a), .val (.int p1), .val (.int p2)] [(.ref a), (.int (2 : Int32)), (.ref b11)])) (fun tgt cont => ?_) ?_
  · refine XT.iconstV X20.here hx rfl (2 : Int32) (hb hby d4_96) rfl ?_
    refine XS.aloadN X20.here hx rfl (hb hby d4_97) rfl rfl ?_
    exact cont
  have f23 := (f17.other W19 (Or.inl ne_a_b11))
  obtain ⟨T22, X22, e22, st22⟩ := getF X20 hx hZ hown (host := "") (Or.inl (hw _ (List.mem_of_getElem? (i := 35) rfl))) Via.refl e20 f23 (g := (mkF m 98 #[.val (.ref a), .val (.int p1), .val (.int p2)] [(.ref a), (.int (2 : Int32)), (.ref b11)])) rfl rfl (hb hby d4_98)
  refine own_go (fun tgt cont => st22 tgt cont) ?_
  show own_Go p e below s (Q_rm4_G Z a p1 p2 u_v u_d u_e ds x0 x1 x2 x3 x4 x5 x6 x7 x8 x9 x10 x11 x12 x13 x14 x15 h0 n0) 1 32 (T22.setTop (mkF m 101 #[.val (.ref a), .val (.int p1), .val (.int p2)] [(.int (8 : Int32)), (.int (2 : Int32)), (.ref b11)]))
  refine own_go (B := T22.setTop (mkF m 105 #[.val (.ref a), .val (.int p1), .val (.int p2)] [(.int p2), (.int (17 : Int32)), (.ref b11)])) (fun tgt cont => ?_) ?_
  · refine XS.imul X22.here hx rfl (hb hby d4_101) rfl ?_
    refine XT.iconstV X22.here hx rfl (1 : Int32) (hb hby d4_102) rfl ?_
    refine XS.iadd X22.here hx rfl (hb hby d4_103) rfl ?_
    refine XS.iloadN X22.here hx rfl (hb hby d4_104) rfl ?_
    exact cont
  obtain ⟨T24, h24, X24, e24, W24, A24, st24⟩ := own_stIA X22 hx hZ e22 A19v (j := (17 : Int32)) (x := p2) ⟨by decide, Nat.le_of_ble_eq_true rfl⟩ (g := (mkF m 105 #[.val (.ref a), .val (.int p1), .val (.int p2)] [(.int p2), (.int (17 : Int32)), (.ref b11)])) rfl rfl (hb hby d4_105)
  have N24 := Fr.snoc X24 N19 g_b11
  have kk24 : Keep h0 h24 [a, u_d] := kk19.wr W24 (Or.inr sz_b11)
  have zp24 : n0 ≤ h24.size := Nat.le_trans Z0 kk24.1
  have A24v : own_IA Z h24 b11 [x0, x1, x2, x3, x4, x5, x6, x7, x8, x9, x10, x11, x12, x13, x14, x15, p1, p2, (0 : Int32), (0 : Int32), (0 : Int32), (0 : Int32), (0 : Int32), (0 : Int32), (0 : Int32), (0 : Int32), (0 : Int32), (0 : Int32), (0 : Int32), (0 : Int32), (0 : Int32), (0 : Int32)] := A24
  refine own_go (fun tgt cont => st24 tgt cont) ?_
  show own_Go p e below s (Q_rm4_G Z a p1 p2 u_v u_d u_e ds x0 x1 x2 x3 x4 x5 x6 x7 x8 x9 x10 x11 x12 x13 x14 x15 h0 n0) 1 32 (T24.setTop (mkF m 106 #[.val (.ref a), .val (.int p1), .val (.int p2)] []))
  refine own_go (B := T24.setTop (mkF m 107 #[.val (.ref a), .val (.int p1), .val (.int p2)] [(.ref a)])) (fun tgt cont => ?_) ?_
  · refine XS.aloadN X24.here hx rfl (hb hby d4_106) rfl rfl ?_
    exact cont
  have f26 := ((((F_a_degree.keep K11 nin0).other W12 (Or.inr (slot_ne (t := (.array .int)) (t' := (.array .int)) (Or.inr (hw _ (List.mem_of_getElem? (i := 16) rfl))) (Or.inl (hw _ (List.mem_of_getElem? (i := 12) rfl))) (by decide) (by decide) (by decide)))).other W19 (Or.inl ne_a_b11)).other W24 (Or.inl ne_a_b11))
  obtain ⟨T25, X25, e25, st25⟩ := getF X24 hx hZ hown (host := "") (Or.inl (hw _ (List.mem_of_getElem? (i := 15) rfl))) Via.refl e24 f26 (g := (mkF m 107 #[.val (.ref a), .val (.int p1), .val (.int p2)] [(.ref a)])) rfl rfl (hb hby d4_107)
  refine own_go (fun tgt cont => st25 tgt cont) ?_
  show own_Go p e below s (Q_rm4_G Z a p1 p2 u_v u_d u_e ds x0 x1 x2 x3 x4 x5 x6 x7 x8 x9 x10 x11 x12 x13 x14 x15 h0 n0) 1 32 (T25.setTop (mkF m 110 #[.val (.ref a), .val (.int p1), .val (.int p2)] [(.ref u_d)]))
  have f27 := ((((A_u_d.keep K11 nin0).other W12 (Ne.symm ne_a_u_d)).other W19 ne_u_d_b11).other W24 ne_u_d_b11)
  refine own_go (B := T25.setTop (mkF m 115 #[.val (.ref a), .val (.int p1), .val (.int p2)] [(.int ((ds.getD p1.toNatClampNeg 0) + (1 : Int32))), (.int p1), (.ref u_d)])) (fun tgt cont => ?_) ?_
  · refine XS.iloadN X25.here hx rfl (hb hby d4_110) rfl ?_
    refine XT.dup2 X25.here hx rfl (hb hby d4_111) rfl rfl rfl ?_
    refine own_ldIA X25 hx hZ e25 f27 (j := p1) d1 (g := (mkF m 112 #[.val (.ref a), .val (.int p1), .val (.int p2)] [(.int p1), (.ref u_d), (.int p1), (.ref u_d)])) rfl rfl (hb hby d4_112) ?_
    refine XT.iconstV X25.here hx rfl (1 : Int32) (hb hby d4_113) rfl ?_
    refine XS.iadd X25.here hx rfl (hb hby d4_114) rfl ?_
    exact cont
  obtain ⟨T28, h28, X28, e28, W28, A28, st28⟩ := own_stIA X25 hx hZ e25 f27 (j := p1) (x := ((ds.getD p1.toNatClampNeg 0) + (1 : Int32))) d1 (g := (mkF m 115 #[.val (.ref a), .val (.int p1), .val (.int p2)] [(.int ((ds.getD p1.toNatClampNeg 0) + (1 : Int32))), (.int p1), (.ref u_d)])) rfl rfl (hb hby d4_115)
  have N28 := Fr.snoc X28 N24 g_u_d
  have kk28 : Keep h0 h28 [a, u_d] := kk24.wr W28 (Or.inl (List.mem_of_getElem? (i := 1) rfl))
  have zp28 : n0 ≤ h28.size := Nat.le_trans Z0 kk28.1
  refine own_go (fun tgt cont => st28 tgt cont) ?_
  show own_Go p e below s (Q_rm4_G Z a p1 p2 u_v u_d u_e ds x0 x1 x2 x3 x4 x5 x6 x7 x8 x9 x10 x11 x12 x13 x14 x15 h0 n0) 1 32 (T28.setTop (mkF m 116 #[.val (.ref a), .val (.int p1), .val (.int p2)] []))
  refine own_go (B := T28.setTop (mkF m 117 #[.val (.ref a), .val (.int p1), .val (.int p2)] [(.ref a)])) (fun tgt cont => ?_) ?_
  · refine XS.aloadN X28.here hx rfl (hb hby d4_116) rfl rfl ?_
    exact cont
  have f30 := (f26.other W28 (Or.inl ne_a_u_d))
  obtain ⟨T29, X29, e29, st29⟩ := getF X28 hx hZ hown (host := "") (Or.inl (hw _ (List.mem_of_getElem? (i := 15) rfl))) Via.refl e28 f30 (g := (mkF m 117 #[.val (.ref a), .val (.int p1), .val (.int p2)] [(.ref a)])) rfl rfl (hb hby d4_117)
  refine own_go (fun tgt cont => st29 tgt cont) ?_
  show own_Go p e below s (Q_rm4_G Z a p1 p2 u_v u_d u_e ds x0 x1 x2 x3 x4 x5 x6 x7 x8 x9 x10 x11 x12 x13 x14 x15 h0 n0) 1 32 (T29.setTop (mkF m 120 #[.val (.ref a), .val (.int p1), .val (.int p2)] [(.ref u_d)]))
  refine own_go (B := T29.setTop (mkF m 125 #[.val (.ref a), .val (.int p1), .val (.int p2)] [(.int (((ds.set p1.toNatClampNeg ((ds.getD p1.toNatClampNeg 0) + (1 : Int32))).getD p2.toNatClampNeg 0) + (1 : Int32))), (.int p2), (.ref u_d)])) (fun tgt cont => ?_) ?_
  · refine XS.iloadN X29.here hx rfl (hb hby d4_120) rfl ?_
    refine XT.dup2 X29.here hx rfl (hb hby d4_121) rfl rfl rfl ?_
    refine own_ldIA X29 hx hZ e29 A28 (j := p2) ⟨d2.1, by rw [List.length_set]; exact d2.2⟩ (g := (mkF m 122 #[.val (.ref a), .val (.int p1), .val (.int p2)] [(.int p2), (.ref u_d), (.int p2), (.ref u_d)])) rfl rfl (hb hby d4_122) ?_
    refine XT.iconstV X29.here hx rfl (1 : Int32) (hb hby d4_123) rfl ?_
    refine XS.iadd X29.here hx rfl (hb hby d4_124) rfl ?_
    exact cont
  obtain ⟨T31, h31, X31, e31, W31, A31, st31⟩ := own_stIA X29 hx hZ e29 A28 (j := p2) (x := (((ds.set p1.toNatClampNeg ((ds.getD p1.toNatClampNeg 0) + (1 : Int32))).getD p2.toNatClampNeg 0) + (1 : Int32))) ⟨d2.1, by rw [List.length_set]; exact d2.2⟩ (g := (mkF m 125 #[.val (.ref a), .val (.int p1), .val (.int p2)] [(.int (((ds.set p1.toNatClampNeg ((ds.getD p1.toNatClampNeg 0) + (1 : Int32))).getD p2.toNatClampNeg 0) + (1 : Int32))), (.int p2), (.ref u_d)])) rfl rfl (hb hby d4_125)
  have N31 := Fr.snoc X31 N28 g_u_d
  have kk31 : Keep h0 h31 [a, u_d] := kk28.wr W31 (Or.inl (List.mem_of_getElem? (i := 1) rfl))
  have zp31 : n0 ≤ h31.size := Nat.le_trans Z0 kk31.1
  refine own_go (fun tgt cont => st31 tgt cont) ?_
  show own_Go p e below s (Q_rm4_G Z a p1 p2 u_v u_d u_e ds x0 x1 x2 x3 x4 x5 x6 x7 x8 x9 x10 x11 x12 x13 x14 x15 h0 n0) 1 32 (T31.setTop (mkF m 126 #[.val (.ref a), .val (.int p1), .val (.int p2)] []))
  refine own_go (B := T31.setTop (mkF m 128 #[.val (.ref a), .val (.int p1), .val (.int p2)] [(.ref a), (.ref a)])) (fun tgt cont => ?_) ?_
  · refine XS.aloadN X31.here hx rfl (hb hby d4_126) rfl rfl ?_
    refine XS.dup X31.here hx rfl (hb hby d4_127) rfl rfl ?_
    exact cont
  have f33 := (((f23.other W24 (Or.inl ne_a_b11)).other W28 (Or.inl ne_a_u_d)).other W31 (Or.inl ne_a_u_d))
  obtain ⟨T32, X32, e32, st32⟩ := getF X31 hx hZ hown (host := "") (Or.inl (hw _ (List.mem_of_getElem? (i := 35) rfl))) Via.refl e31 f33 (g := (mkF m 128 #[.val (.ref a), .val (.int p1), .val (.int p2)] [(.ref a), (.ref a)])) rfl rfl (hb hby d4_128)
  refine own_go (fun tgt cont => st32 tgt cont) ?_
  show own_Go p e below s (Q_rm4_G Z a p1 p2 u_v u_d u_e ds x0 x1 x2 x3 x4 x5 x6 x7 x8 x9 x10 x11 x12 x13 x14 x15 h0 n0) 1 32 (T32.setTop (mkF m 131 #[.val (.ref a), .val (.int p1), .val (.int p2)] [(.int (8 : Int32)), (.ref a)]))
  refine own_go (B := T32.setTop (mkF m 134 #[.val (.ref a), .val (.int p1), .val (.int p2)] [(.int (9 : Int32)), (.ref a), (.int (8 : Int32))])) (fun tgt cont => ?_) ?_
  · refine XS.dupX1 X32.here hx rfl (hb hby d4_131) rfl rfl rfl ?_
    refine XT.iconstV X32.here hx rfl (1 : Int32) (hb hby d4_132) rfl ?_
    refine XS.iadd X32.here hx rfl (hb hby d4_133) rfl ?_
    exact cont
  have f35 := (((((f14.wr W12).wr W19).wr W24).wr W28).wr W31)
  obtain ⟨T34, h34, X34, e34, W34, st34⟩ := putF X32 hx hZ hown (host := "") (Or.inl (hw _ (List.mem_of_getElem? (i := 35) rfl))) Via.refl e32 f33 f35 (Or.inl (hw _ (List.mem_of_getElem? (i := 36) rfl))) (hw _ (List.mem_of_getElem? (i := 2) rfl)) (ty := .int) (by decide) rfl rfl (g := (mkF m 134 #[.val (.ref a), .val (.int p1), .val (.int p2)] [(.int (9 : Int32)), (.ref a), (.int (8 : Int32))])) rfl rfl (hb hby d4_134)
  have fw34 := f33.same W34
  have N34 := Fr.snoc X34 N31 g_a
  have kk34 : Keep h0 h34 [a, u_d] := kk31.wr W34 (Or.inl (List.mem_of_getElem? (i := 0) rfl))
  have zp34 : n0 ≤ h34.size := Nat.le_trans Z0 kk34.1
  refine own_go (fun tgt cont => st34 tgt cont) ?_
  show own_Go p e below s (Q_rm4_G Z a p1 p2 u_v u_d u_e ds x0 x1 x2 x3 x4 x5 x6 x7 x8 x9 x10 x11 x12 x13 x14 x15 h0 n0) 1 32 (T34.setTop (mkF m 137 #[.val (.ref a), .val (.int p1), .val (.int p2)] [(.int (8 : Int32))]))
  refine own_end X34 (v := some (.int (8 : Int32))) (fun h => by rw [Bd.returns] at h; cases h) hlk ?_ (by decide) (by decide) (fun fs hl => retI X34 hx Bd.returns (hb hby d4_137) hl)
  have f36 := (f35.wr W34)
  have f37 := (((((((F_a_vertexCount.keep K11 nin0).other W12 (Or.inr (slot_ne (t := .int) (t' := (.array .int)) (Or.inr (hw _ (List.mem_of_getElem? (i := 14) rfl))) (Or.inl (hw _ (List.mem_of_getElem? (i := 12) rfl))) (by decide) (by decide) (by decide)))).other W19 (Or.inl ne_a_b11)).other W24 (Or.inl ne_a_b11)).other W28 (Or.inl ne_a_u_d)).other W31 (Or.inl ne_a_u_d)).other W34 (Or.inr (slot_ne (t := .int) (t' := .int) (Or.inr (hw _ (List.mem_of_getElem? (i := 14) rfl))) (Or.inl (hw _ (List.mem_of_getElem? (i := 36) rfl))) (by decide) (by decide) (by decide))))
  have f38 := ((f30.other W31 (Or.inl ne_a_u_d)).other W34 (Or.inr (slot_ne (t := (.array .int)) (t' := .int) (Or.inr (hw _ (List.mem_of_getElem? (i := 16) rfl))) (Or.inl (hw _ (List.mem_of_getElem? (i := 36) rfl))) (by decide) (by decide) (by decide))))
  have f39 := ((((f21.other W24 (Or.inl ne_a_b11)).other W28 (Or.inl ne_a_u_d)).other W31 (Or.inl ne_a_u_d)).other W34 (Or.inr (slot_ne (t := (.array .int)) (t' := .int) (Or.inl (hw _ (List.mem_of_getElem? (i := 12) rfl))) (Or.inl (hw _ (List.mem_of_getElem? (i := 36) rfl))) (by decide) (by decide) (by decide))))
  have f40 := (A31.other W34 (Ne.symm ne_a_u_d))
  have f41 := (((A24v.other W28 (Ne.symm ne_u_d_b11)).other W31 (Ne.symm ne_u_d_b11)).other W34 (Ne.symm ne_a_b11))
  have f42 := ((((((eb11.wr W12).wr W19).wr W24).wr W28).wr W31).wr W34)
  rw [e34]
  exact ⟨_, rfl, N34, kk34, f36, f37, f38, f39, fw34, (by unfold own_ag_ds; exact f40), sz_b11, (by unfold own_ag_ends; exact f41), f42⟩
def own_fsL (ds : List Int32) : Nat → List Int32 → List Int32
  | 0, fs => fs
  | v + 1, fs => (own_fsL ds v fs).set (v + 1) ((own_fsL ds v fs).getD v 0 + ds.getD v 0)
theorem own_fsL_len (ds : List Int32) (v : Nat) (fs : List Int32) : (own_fsL ds v fs).length = fs.length := by
  induction v with
  | zero => rfl
  | succ v ih => rw [own_fsL, List.length_set, ih]
def own_ln (es n0 : List Int32) : Nat → List Int32
  | 0 => n0
  | i + 1 => (own_ln es n0 i).set (es.getD i 0).toNatClampNeg ((own_ln es n0 i).getD (es.getD i 0).toNatClampNeg 0 + (1 : Int32))
def own_sl (es n0 : List Int32) (i : Nat) : Int32 := (own_ln es n0 i).getD (es.getD i 0).toNatClampNeg 0
def own_l1 (es n0 z : List Int32) : Nat → List Int32
  | 0 => z
  | i + 1 => (own_l1 es n0 z i).set ((own_ln es n0 i).getD (es.getD i 0).toNatClampNeg 0).toNatClampNeg (es.getD (Int32.ofNat i ^^^ (1 : Int32)).toNatClampNeg 0)
def own_l2 (es n0 z : List Int32) : Nat → List Int32
  | 0 => z
  | i + 1 => (own_l2 es n0 z i).set ((own_ln es n0 i).getD (es.getD i 0).toNatClampNeg 0).toNatClampNeg (Int32.ofNat i / (2 : Int32))
theorem own_ln_len (es n0 : List Int32) (i : Nat) : (own_ln es n0 i).length = n0.length := by
  induction i with
  | zero => rfl
  | succ i ih => rw [own_ln, List.length_set, ih]
theorem own_l1_len (es n0 z : List Int32) (i : Nat) : (own_l1 es n0 z i).length = z.length := by
  induction i with
  | zero => rfl
  | succ i ih => rw [own_l1, List.length_set, ih]
theorem own_l2_len (es n0 z : List Int32) (i : Nat) : (own_l2 es n0 z i).length = z.length := by
  induction i with
  | zero => rfl
  | succ i ih => rw [own_l2, List.length_set, ih]
def own_GB (es n0 : List Int32) : Prop := ∀ i, i < es.length → (¬ es.getD i 0 < 0 ∧ (es.getD i 0).toNatClampNeg < n0.length) ∧ (¬ (own_ln es n0 i).getD (es.getD i 0).toNatClampNeg 0 < 0 ∧ ((own_ln es n0 i).getD (es.getD i 0).toNatClampNeg 0).toNatClampNeg < es.length) ∧ (¬ (Int32.ofNat i ^^^ (1 : Int32)) < 0 ∧ (Int32.ofNat i ^^^ (1 : Int32)).toNatClampNeg < es.length)
theorem own_ltP {i : Nat} {p : Int32} (h : Int32.ofNat i < p) (hn : ¬ p < 0) (hi : i ≤ p.toNatClampNeg) : i < p.toNatClampNeg := by
  have r := rng32 p
  have e0 : (0 : Int32).toInt = 0 := rfl
  rw [Int32.lt_iff_toInt_lt, e0] at hn
  rw [Int32.toNatClampNeg] at *
  rw [Int32.lt_iff_toInt_lt, own_toI (by omega)] at h
  omega
theorem own_geP {i : Nat} {p : Int32} (h : ¬ Int32.ofNat i < p) (hn : ¬ p < 0) (hi : i ≤ p.toNatClampNeg) : i = p.toNatClampNeg := by
  have r := rng32 p
  have e0 : (0 : Int32).toInt = 0 := rfl
  rw [Int32.lt_iff_toInt_lt, e0] at hn
  rw [Int32.toNatClampNeg] at *
  rw [Int32.lt_iff_toInt_lt, own_toI (by omega)] at h
  omega
theorem own_geL {i n : Nat} (h : ¬ Int32.ofNat i < Int32.ofNat n) (hn : n < 2147483648) (hi : i ≤ n) : i = n := Nat.le_antisymm hi (own_ofNat_nlt h hn hi)
theorem own_p1i {p : Int32} (hn : ¬ p < 0) {k : Nat} (h8 : p.toNatClampNeg ≤ k) (hk : k ≤ 32) : (p + 1).toInt = (p.toNatClampNeg : Int) + 1 := by
  have a := c_iadd p 1
  have r := rng32 (p + 1)
  have e1 : (1 : Int32).toInt = 1 := rfl
  have e0 : (0 : Int32).toInt = 0 := rfl
  rw [Int32.lt_iff_toInt_lt, e0] at hn
  rw [Int32.toNatClampNeg] at *
  rw [e1] at a
  generalize p + 1 = z at *
  omega
theorem own_nnL {n : Nat} (h : n < 2147483648) : ¬ Int32.ofNat n < 0 := by
  have e0 : (0 : Int32).toInt = 0 := rfl
  rw [Int32.lt_iff_toInt_lt, own_toI h, e0]; omega
theorem own_capL {n : Nat} (h : n < 2147483648) (h32 : n ≤ 32) : (Int32.ofNat n).toNatClampNeg ≤ 32 := by rw [own_toN h]; exact h32
theorem own_repL {n : Nat} (h : n < 2147483648) : (List.replicate (Int32.ofNat n).toNatClampNeg (0 : Int32)) = List.replicate n 0 := by rw [own_toN h]
theorem own_p1n {p : Int32} (hn : ¬ p < 0) (h8 : p.toNatClampNeg ≤ 8) : ¬ (p + (1 : Int32)) < 0 := by
  have q := own_p1i hn h8 (by decide)
  have e0 : (0 : Int32).toInt = 0 := rfl
  rw [Int32.lt_iff_toInt_lt, q, e0]; omega
theorem own_p1c {p : Int32} (hn : ¬ p < 0) (h8 : p.toNatClampNeg ≤ 8) : (p + (1 : Int32)).toNatClampNeg ≤ 8 + 1 := by
  have q := own_p1i hn h8 (by decide)
  show (p + (1 : Int32)).toInt.toNat ≤ 8 + 1
  rw [q]; omega
theorem own_p1l {p : Int32} (hn : ¬ p < 0) (h8 : p.toNatClampNeg ≤ 8) : (List.replicate (p + (1 : Int32)).toNatClampNeg (0 : Int32)) = List.replicate (p.toNatClampNeg + 1) 0 := by
  have q := own_p1i hn h8 (by decide)
  have e : (p + (1 : Int32)).toNatClampNeg = p.toNatClampNeg + 1 := by
    show (p + (1 : Int32)).toInt.toNat = _
    rw [q]; omega
  rw [e]
theorem own_fsL_len2 (ds : List Int32) (v : Nat) (n : Nat) : (own_fsL ds v (List.replicate n 0)).length = n := by rw [own_fsL_len, List.length_replicate]
theorem own_cpd {p : Int32} {fs : List Int32} (hn : ¬ p < 0) (hl : fs.length = p.toNatClampNeg + 1) (h8 : p.toNatClampNeg ≤ 8) : ¬ p = Int32.ofNat fs.length := by
  intro e
  have q := congrArg Int32.toInt e
  rw [own_toI (by omega), hl] at q
  have r := rng32 p
  have t : p.toNatClampNeg = p.toInt.toNat := rfl
  omega

def Q_rm13 (Z : State) (a : Addr) (p1 : Int32) (r_e : Addr) (r_d : Addr) (es : List Int32) (ds : List Int32) (h0 : Heap) (n0 : Nat) (v : Option Value) (h : Heap) (L : List Loc) : Prop := ∃ nb0 nb1 nb2 : Addr, v = none ∧ Fr n0 L ∧ Keep h0 h [a] ∧ Exa Z h a "com/example/cyclecut/cyclecut/graph/Graph" ∧ Fld Z h a "com/example/cyclecut/cyclecut/graph/Graph" "vertexCount" "I" (.int p1) ∧ Fld Z h a "com/example/cyclecut/cyclecut/graph/Graph" "ends" "[I" (.ref r_e) ∧ Fld Z h a "com/example/cyclecut/cyclecut/graph/Graph" "firstSlot" "[I" (.ref nb0) ∧ Fld Z h a "com/example/cyclecut/cyclecut/graph/Graph" "slotNeighbor" "[I" (.ref nb1) ∧ Fld Z h a "com/example/cyclecut/cyclecut/graph/Graph" "slotEdge" "[I" (.ref nb2) ∧ h0.size ≤ nb0 ∧ own_IA Z h nb0 (own_fsL ds p1.toNatClampNeg (List.replicate (p1.toNatClampNeg + 1) 0)) ∧ Exa Z h nb0 "[I" ∧ h0.size ≤ nb1 ∧ own_IA Z h nb1 (own_l1 es (own_cof_l p1 (own_fsL ds p1.toNatClampNeg (List.replicate (p1.toNatClampNeg + 1) 0))) (List.replicate es.length 0) es.length) ∧ Exa Z h nb1 "[I" ∧ h0.size ≤ nb2 ∧ own_IA Z h nb2 (own_l2 es (own_cof_l p1 (own_fsL ds p1.toNatClampNeg (List.replicate (p1.toNatClampNeg + 1) 0))) (List.replicate es.length 0) es.length) ∧ Exa Z h nb2 "[I" ∧ nb0 ≠ nb1 ∧ nb0 ≠ nb2 ∧ nb1 ≠ nb2
theorem own_pn4 : plainName "com/example/cyclecut/cyclecut/graph/Graph" = true := by first | (simp [plainName, overriddenIn]; done) | decide +kernel
theorem d13_0 : decode prog_24_method_1_code 0 = .ok (.aload_n 0, 1) := by decide +kernel
theorem d13_1 : decode prog_24_method_1_code 1 = .ok (.invokespecial 1, 3) := by decide +kernel
theorem d13_4 : decode prog_24_method_1_code 4 = .ok (.aload_n 0, 1) := by decide +kernel
theorem d13_5 : decode prog_24_method_1_code 5 = .ok (.iload_n 1, 1) := by decide +kernel
theorem d13_6 : decode prog_24_method_1_code 6 = .ok (.putfield 7, 3) := by decide +kernel
theorem d13_9 : decode prog_24_method_1_code 9 = .ok (.aload_n 0, 1) := by decide +kernel
theorem d13_10 : decode prog_24_method_1_code 10 = .ok (.aload_n 2, 1) := by decide +kernel
theorem d13_11 : decode prog_24_method_1_code 11 = .ok (.putfield 13, 3) := by decide +kernel
theorem d13_14 : decode prog_24_method_1_code 14 = .ok (.aload_n 0, 1) := by decide +kernel
theorem d13_15 : decode prog_24_method_1_code 15 = .ok (.iload_n 1, 1) := by decide +kernel
theorem d13_16 : decode prog_24_method_1_code 16 = .ok (.iconst 1, 1) := by decide +kernel
theorem d13_17 : decode prog_24_method_1_code 17 = .ok (.iadd, 1) := by decide +kernel
theorem d13_18 : decode prog_24_method_1_code 18 = .ok (.newarray .int, 2) := by decide +kernel
theorem d13_20 : decode prog_24_method_1_code 20 = .ok (.putfield 17, 3) := by decide +kernel
theorem d13_23 : decode prog_24_method_1_code 23 = .ok (.iconst 0, 1) := by decide +kernel
theorem d13_24 : decode prog_24_method_1_code 24 = .ok (.istore 4, 2) := by decide +kernel
theorem d13_26 : decode prog_24_method_1_code 26 = .ok (.iload 4, 2) := by decide +kernel
theorem d13_28 : decode prog_24_method_1_code 28 = .ok (.iload_n 1, 1) := by decide +kernel
theorem d13_29 : decode prog_24_method_1_code 29 = .ok (.if_icmp .ge 30, 3) := by decide +kernel
theorem d13_32 : decode prog_24_method_1_code 32 = .ok (.aload_n 0, 1) := by decide +kernel
theorem d13_33 : decode prog_24_method_1_code 33 = .ok (.getfield 17, 3) := by decide +kernel
theorem d13_36 : decode prog_24_method_1_code 36 = .ok (.iload 4, 2) := by decide +kernel
theorem d13_38 : decode prog_24_method_1_code 38 = .ok (.iconst 1, 1) := by decide +kernel
theorem d13_39 : decode prog_24_method_1_code 39 = .ok (.iadd, 1) := by decide +kernel
theorem d13_40 : decode prog_24_method_1_code 40 = .ok (.aload_n 0, 1) := by decide +kernel
theorem d13_41 : decode prog_24_method_1_code 41 = .ok (.getfield 17, 3) := by decide +kernel
theorem d13_44 : decode prog_24_method_1_code 44 = .ok (.iload 4, 2) := by decide +kernel
theorem d13_46 : decode prog_24_method_1_code 46 = .ok (.iaload, 1) := by decide +kernel
theorem d13_47 : decode prog_24_method_1_code 47 = .ok (.aload_n 3, 1) := by decide +kernel
theorem d13_48 : decode prog_24_method_1_code 48 = .ok (.iload 4, 2) := by decide +kernel
theorem d13_50 : decode prog_24_method_1_code 50 = .ok (.iaload, 1) := by decide +kernel
theorem d13_51 : decode prog_24_method_1_code 51 = .ok (.iadd, 1) := by decide +kernel
theorem d13_52 : decode prog_24_method_1_code 52 = .ok (.iastore, 1) := by decide +kernel
theorem d13_53 : decode prog_24_method_1_code 53 = .ok (.iinc 4 1, 3) := by decide +kernel
theorem d13_56 : decode prog_24_method_1_code 56 = .ok (.goto (-30), 3) := by decide +kernel
theorem d13_59 : decode prog_24_method_1_code 59 = .ok (.aload_n 0, 1) := by decide +kernel
theorem d13_60 : decode prog_24_method_1_code 60 = .ok (.aload_n 2, 1) := by decide +kernel
theorem d13_61 : decode prog_24_method_1_code 61 = .ok (.arraylength, 1) := by decide +kernel
theorem d13_62 : decode prog_24_method_1_code 62 = .ok (.newarray .int, 2) := by decide +kernel
theorem d13_64 : decode prog_24_method_1_code 64 = .ok (.putfield 20, 3) := by decide +kernel
theorem d13_67 : decode prog_24_method_1_code 67 = .ok (.aload_n 0, 1) := by decide +kernel
theorem d13_68 : decode prog_24_method_1_code 68 = .ok (.aload_n 2, 1) := by decide +kernel
theorem d13_69 : decode prog_24_method_1_code 69 = .ok (.arraylength, 1) := by decide +kernel
theorem d13_70 : decode prog_24_method_1_code 70 = .ok (.newarray .int, 2) := by decide +kernel
theorem d13_72 : decode prog_24_method_1_code 72 = .ok (.putfield 23, 3) := by decide +kernel
theorem d13_75 : decode prog_24_method_1_code 75 = .ok (.aload_n 0, 1) := by decide +kernel
theorem d13_76 : decode prog_24_method_1_code 76 = .ok (.getfield 17, 3) := by decide +kernel
theorem d13_79 : decode prog_24_method_1_code 79 = .ok (.iload_n 1, 1) := by decide +kernel
theorem d13_80 : decode prog_24_method_1_code 80 = .ok (.invokestatic 26, 3) := by decide +kernel
theorem d13_83 : decode prog_24_method_1_code 83 = .ok (.astore 4, 2) := by decide +kernel
theorem d13_85 : decode prog_24_method_1_code 85 = .ok (.iconst 0, 1) := by decide +kernel
theorem d13_86 : decode prog_24_method_1_code 86 = .ok (.istore 5, 2) := by decide +kernel
theorem d13_88 : decode prog_24_method_1_code 88 = .ok (.iload 5, 2) := by decide +kernel
theorem d13_90 : decode prog_24_method_1_code 90 = .ok (.aload_n 2, 1) := by decide +kernel
theorem d13_91 : decode prog_24_method_1_code 91 = .ok (.arraylength, 1) := by decide +kernel
theorem d13_92 : decode prog_24_method_1_code 92 = .ok (.if_icmp .ge 47, 3) := by decide +kernel
theorem d13_95 : decode prog_24_method_1_code 95 = .ok (.aload 4, 2) := by decide +kernel
theorem d13_97 : decode prog_24_method_1_code 97 = .ok (.aload_n 2, 1) := by decide +kernel
theorem d13_98 : decode prog_24_method_1_code 98 = .ok (.iload 5, 2) := by decide +kernel
theorem d13_100 : decode prog_24_method_1_code 100 = .ok (.iaload, 1) := by decide +kernel
theorem d13_101 : decode prog_24_method_1_code 101 = .ok (.dup2, 1) := by decide +kernel
theorem d13_102 : decode prog_24_method_1_code 102 = .ok (.iaload, 1) := by decide +kernel
theorem d13_103 : decode prog_24_method_1_code 103 = .ok (.dup_x2, 1) := by decide +kernel
theorem d13_104 : decode prog_24_method_1_code 104 = .ok (.iconst 1, 1) := by decide +kernel
theorem d13_105 : decode prog_24_method_1_code 105 = .ok (.iadd, 1) := by decide +kernel
theorem d13_106 : decode prog_24_method_1_code 106 = .ok (.iastore, 1) := by decide +kernel
theorem d13_107 : decode prog_24_method_1_code 107 = .ok (.istore 6, 2) := by decide +kernel
theorem d13_109 : decode prog_24_method_1_code 109 = .ok (.aload_n 0, 1) := by decide +kernel
theorem d13_110 : decode prog_24_method_1_code 110 = .ok (.getfield 20, 3) := by decide +kernel
theorem d13_113 : decode prog_24_method_1_code 113 = .ok (.iload 6, 2) := by decide +kernel
theorem d13_115 : decode prog_24_method_1_code 115 = .ok (.aload_n 2, 1) := by decide +kernel
theorem d13_116 : decode prog_24_method_1_code 116 = .ok (.iload 5, 2) := by decide +kernel
theorem d13_118 : decode prog_24_method_1_code 118 = .ok (.iconst 1, 1) := by decide +kernel
theorem d13_119 : decode prog_24_method_1_code 119 = .ok (.ixor, 1) := by decide +kernel
theorem d13_120 : decode prog_24_method_1_code 120 = .ok (.iaload, 1) := by decide +kernel
theorem d13_121 : decode prog_24_method_1_code 121 = .ok (.iastore, 1) := by decide +kernel
theorem d13_122 : decode prog_24_method_1_code 122 = .ok (.aload_n 0, 1) := by decide +kernel
theorem d13_123 : decode prog_24_method_1_code 123 = .ok (.getfield 23, 3) := by decide +kernel
theorem d13_126 : decode prog_24_method_1_code 126 = .ok (.iload 6, 2) := by decide +kernel
theorem d13_128 : decode prog_24_method_1_code 128 = .ok (.iload 5, 2) := by decide +kernel
theorem d13_130 : decode prog_24_method_1_code 130 = .ok (.iconst 2, 1) := by decide +kernel
theorem d13_131 : decode prog_24_method_1_code 131 = .ok (.idiv, 1) := by decide +kernel
theorem d13_132 : decode prog_24_method_1_code 132 = .ok (.iastore, 1) := by decide +kernel
theorem d13_133 : decode prog_24_method_1_code 133 = .ok (.iinc 5 1, 3) := by decide +kernel
theorem d13_136 : decode prog_24_method_1_code 136 = .ok (.goto (-48), 3) := by decide +kernel
theorem d13_139 : decode prog_24_method_1_code 139 = .ok (.return_, 1) := by decide +kernel
set_option maxRecDepth 65536 in
set_option maxHeartbeats 40000000 in
theorem rm13 (l : Launch) (Z : State) (a0 : Array Value) (hw : ∀ d ∈ tables_1, d.before a0 Z = true) (ws : List Jvm.Cond) (a : Addr) (p1 : Int32) (r_e : Addr) (r_d : Addr) (es : List Int32) (ds : List Int32) (h0 : Heap) (n0 : Nat) (Z0 : n0 ≤ h0.size) (E_a : Exa Z h0 a "com/example/cyclecut/cyclecut/graph/Graph") (F_a_vertexCount : Fld Z h0 a "com/example/cyclecut/cyclecut/graph/Graph" "vertexCount" "I" (.int (0 : Int32))) (F_a_ends : Fld Z h0 a "com/example/cyclecut/cyclecut/graph/Graph" "ends" "[I" .null) (F_a_firstSlot : Fld Z h0 a "com/example/cyclecut/cyclecut/graph/Graph" "firstSlot" "[I" .null) (F_a_slotNeighbor : Fld Z h0 a "com/example/cyclecut/cyclecut/graph/Graph" "slotNeighbor" "[I" .null) (F_a_slotEdge : Fld Z h0 a "com/example/cyclecut/cyclecut/graph/Graph" "slotEdge" "[I" .null) (g_a : n0 ≤ a) (A_r_e : own_IA Z h0 r_e es) (A_r_d : own_IA Z h0 r_d ds) (hn : ¬ p1 < 0) (h8 : p1.toNatClampNeg ≤ 8) (h32 : es.length ≤ 32) (hds : ds.length = p1.toNatClampNeg) (hGB : own_GB es (own_cof_l p1 (own_fsL ds p1.toNatClampNeg (List.replicate (p1.toNatClampNeg + 1) 0)))) :
    MetFree l (⟨"com/example/cyclecut/cyclecut/graph/Graph", "<init>", "(I[I[I)V"⟩ : MethodName) (head1 (Jvm.Cond.code (⟨"com/example/cyclecut/cyclecut/graph/Graph", "<init>", "(I[I[I)V"⟩ : MethodName) prog_24_method_1_code 7 none :: ws) ({ frames := 2, cells := 4, slots := 105, locals := 32 } : Room)) (fun aa U => aa = #[(.ref a), (.int p1), (.ref r_e), (.ref r_d)] ∧ Z.Warmed39 U.vm ∧ U.heap = h0) (fun _ _ _ _ _ => True) (fun _ U o U' => ∃ v L, o = .returned v ∧ Q_rm13 Z a p1 r_e r_d es ds h0 n0 v U'.heap L ∧ FrameEnd U o U' L ({ frames := 2, cells := 4, slots := 105, locals := 32 } : Room).cells ({ frames := 2, cells := 4, slots := 105, locals := 32 } : Room).slots) := by
  refine MetFree.of_bodySF (plainFor_of_name own_pn4) hisR ?_
  intro p e s m args below meth c s₁ Bd hml0 hP hK
  obtain ⟨rfl, hZ, hh⟩ := hP
  have hx := Bd.exec
  have hby := Bd.bytes
  have hml : c.maxLocals = 7 := hml0
  have hlk : meth.locks = false := BodyLoose.notSynchronized Bd
  have hown : s.vm.findClass "com/example/cyclecut/cyclecut/graph/Graph" = some m.cls := findClass_of_methodNamed Bd.named
  have hnm := (name_of_methodNamed Bd.named Bd.method).1
  have X0 : Stand p l e ({ frames := 2, cells := 4, slots := 105, locals := 32 } : Room) s m #[(.ref a), (.int p1), (.ref r_e), (.ref r_d)] below meth c s₁ [] 0 0 := Stand.of_body Bd
  have e0 : s₁.heap = h0 := by rw [← hh, Bd.state]; rfl
  have N0 := Fr.nil n0
  show own_Go p e below s (Q_rm13 Z a p1 r_e r_d es ds h0 n0) 4 105 (s₁.setTop (entryFrame m #[(.ref a), (.int p1), (.ref r_e), (.ref r_d)] 7))
  refine own_go (B := s₁.setTop (mkF m 0 #[.val (.ref a), .val (.int p1), .val (.ref r_e), .val (.ref r_d), .unset, .unset, .unset] [])) (fun tgt cont => (XT.entry rfl).trans cont) ?_
  have ne_a_r_e := own_neA E_a (hw _ (List.mem_of_getElem? (i := 69) rfl)) A_r_e.arr
  have ne_a_r_d := own_neA E_a (hw _ (List.mem_of_getElem? (i := 69) rfl)) A_r_d.arr
  refine own_go (B := s₁.setTop (mkF m 1 #[.val (.ref a), .val (.int p1), .val (.ref r_e), .val (.ref r_d), .unset, .unset, .unset] [(.ref a)])) (fun tgt cont => ?_) ?_
  · refine XS.aloadN X0.here hx rfl (hb hby d13_0) rfl rfl ?_
    exact cont
  obtain ⟨T1, X1, e1, st1⟩ := initO X0 hx hZ hown (hw _ (List.mem_of_getElem? (i := 83) rfl)) (hw _ (List.mem_of_getElem? (i := 8) rfl)) (hw _ (List.mem_of_getElem? (i := 9) rfl)) e0 (g := (mkF m 1 #[.val (.ref a), .val (.int p1), .val (.ref r_e), .val (.ref r_d), .unset, .unset, .unset] [(.ref a)])) rfl (by rw [hml]; rfl) rfl (hb hby d13_1) (by decide) (W := 0) (by show 2 * 0 + _ ≤ _; exact Nat.le_of_eq rfl) (by decide)
  refine own_go (fun tgt cont => st1 tgt cont) ?_
  show own_Go p e below s (Q_rm13 Z a p1 r_e r_d es ds h0 n0) 4 105 (T1.setTop (mkF m 4 #[.val (.ref a), .val (.int p1), .val (.ref r_e), .val (.ref r_d), .unset, .unset, .unset] []))
  refine own_go (B := T1.setTop (mkF m 6 #[.val (.ref a), .val (.int p1), .val (.ref r_e), .val (.ref r_d), .unset, .unset, .unset] [(.int p1), (.ref a)])) (fun tgt cont => ?_) ?_
  · refine XS.aloadN X1.here hx rfl (hb hby d13_4) rfl rfl ?_
    refine XS.iloadN X1.here hx rfl (hb hby d13_5) rfl ?_
    exact cont
  obtain ⟨T2, h2, X2, e2, W2, st2⟩ := putF X1 hx hZ hown (host := "") (Or.inl (hw _ (List.mem_of_getElem? (i := 84) rfl))) Via.refl e1 F_a_vertexCount E_a (Or.inr ⟨(hw _ (List.mem_of_getElem? (i := 85) rfl)), rfl, hnm⟩) (hw _ (List.mem_of_getElem? (i := 69) rfl)) (ty := .int) (by decide) rfl rfl (g := (mkF m 6 #[.val (.ref a), .val (.int p1), .val (.ref r_e), .val (.ref r_d), .unset, .unset, .unset] [(.int p1), (.ref a)])) rfl rfl (hb hby d13_6)
  have fw2 := F_a_vertexCount.same W2
  have N2 := Fr.snoc X2 N0 g_a
  have kk2 : Keep h0 h2 [a] := (Keep.refl h0 [a]).wr W2 (Or.inl (List.mem_of_getElem? (i := 0) rfl))
  have zp2 : n0 ≤ h2.size := Nat.le_trans Z0 kk2.1
  refine own_go (fun tgt cont => st2 tgt cont) ?_
  show own_Go p e below s (Q_rm13 Z a p1 r_e r_d es ds h0 n0) 4 105 (T2.setTop (mkF m 9 #[.val (.ref a), .val (.int p1), .val (.ref r_e), .val (.ref r_d), .unset, .unset, .unset] []))
  refine own_go (B := T2.setTop (mkF m 11 #[.val (.ref a), .val (.int p1), .val (.ref r_e), .val (.ref r_d), .unset, .unset, .unset] [(.ref r_e), (.ref a)])) (fun tgt cont => ?_) ?_
  · refine XS.aloadN X2.here hx rfl (hb hby d13_9) rfl rfl ?_
    refine XS.aloadN X2.here hx rfl (hb hby d13_10) rfl rfl ?_
    exact cont
  have f4 := (F_a_ends.other W2 (Or.inr (slot_ne (t := (.array .int)) (t' := .int) (Or.inr (hw _ (List.mem_of_getElem? (i := 87) rfl))) (Or.inr (hw _ (List.mem_of_getElem? (i := 85) rfl))) (by decide) (by decide) (by decide))))
  have f5 := (E_a.wr W2)
  obtain ⟨T3, h3, X3, e3, W3, st3⟩ := putF X2 hx hZ hown (host := "") (Or.inl (hw _ (List.mem_of_getElem? (i := 86) rfl))) Via.refl e2 f4 f5 (Or.inr ⟨(hw _ (List.mem_of_getElem? (i := 87) rfl)), rfl, hnm⟩) (hw _ (List.mem_of_getElem? (i := 69) rfl)) (ty := (.array .int)) (by decide) rfl rfl (g := (mkF m 11 #[.val (.ref a), .val (.int p1), .val (.ref r_e), .val (.ref r_d), .unset, .unset, .unset] [(.ref r_e), (.ref a)])) rfl rfl (hb hby d13_11)
  have fw3 := f4.same W3
  have N3 := Fr.snoc X3 N2 g_a
  have kk3 : Keep h0 h3 [a] := kk2.wr W3 (Or.inl (List.mem_of_getElem? (i := 0) rfl))
  have zp3 : n0 ≤ h3.size := Nat.le_trans Z0 kk3.1
  refine own_go (fun tgt cont => st3 tgt cont) ?_
  show own_Go p e below s (Q_rm13 Z a p1 r_e r_d es ds h0 n0) 4 105 (T3.setTop (mkF m 14 #[.val (.ref a), .val (.int p1), .val (.ref r_e), .val (.ref r_d), .unset, .unset, .unset] []))
  refine own_go (B := T3.setTop (mkF m 18 #[.val (.ref a), .val (.int p1), .val (.ref r_e), .val (.ref r_d), .unset, .unset, .unset] [(.int (p1 + (1 : Int32))), (.ref a)])) (fun tgt cont => ?_) ?_
  · refine XS.aloadN X3.here hx rfl (hb hby d13_14) rfl rfl ?_
    refine XS.iloadN X3.here hx rfl (hb hby d13_15) rfl ?_
    refine XT.iconstV X3.here hx rfl (1 : Int32) (hb hby d13_16) rfl ?_
    refine XS.iadd X3.here hx rfl (hb hby d13_17) rfl ?_
    exact cont
  have f7 := (f5.wr W3)
  have f8 := ((A_r_e.other W2 (Ne.symm ne_a_r_e)).other W3 (Ne.symm ne_a_r_e))
  have f9 := ((A_r_d.other W2 (Ne.symm ne_a_r_d)).other W3 (Ne.symm ne_a_r_d))
  obtain ⟨T6, h6, X6, e6, E6, A6, AE6, st6⟩ := own_newIA X3 hx hZ (hw _ (List.mem_of_getElem? (i := 10) rfl)) e3 (g := (mkF m 18 #[.val (.ref a), .val (.int p1), .val (.ref r_e), .val (.ref r_d), .unset, .unset, .unset] [(.int (p1 + (1 : Int32))), (.ref a)])) rfl (hb hby d13_18) rfl (own_p1n hn h8) (cap := 9) (own_p1c hn h8) (by decide) (by decide) (by decide)
  obtain ⟨b6, g6⟩ : ∃ z, z = h3.size := ⟨_, rfl⟩
  rw [← g6] at A6 AE6 st6
  have g_b6 : n0 ≤ b6 := Nat.le_trans zp3 (Nat.le_of_eq g6.symm)
  have sz_b6 : h0.size ≤ b6 := Nat.le_trans kk3.1 (Nat.le_of_eq g6.symm)
  have ne_a_b6 : a ≠ b6 := Nat.ne_of_lt (by rw [g6]; exact f7.lt)
  have ne_r_e_b6 : r_e ≠ b6 := Nat.ne_of_lt (by rw [g6]; exact f8.lt)
  have ne_r_d_b6 : r_d ≠ b6 := Nat.ne_of_lt (by rw [g6]; exact f9.lt)
  have kk6 : Keep h0 h6 [a] := kk3.ext E6
  have zp6 : n0 ≤ h6.size := Nat.le_trans Z0 kk6.1
  have A6v : own_IA Z h6 b6 (List.replicate (p1.toNatClampNeg + 1) 0) := A6.cong (own_p1l hn h8)
  refine own_go (fun tgt cont => st6 tgt cont) ?_
  show own_Go p e below s (Q_rm13 Z a p1 r_e r_d es ds h0 n0) 4 105 (T6.setTop (mkF m 20 #[.val (.ref a), .val (.int p1), .val (.ref r_e), .val (.ref r_d), .unset, .unset, .unset] [(.ref b6), (.ref a)]))
  have f11 := (((F_a_firstSlot.other W2 (Or.inr (slot_ne (t := (.array .int)) (t' := .int) (Or.inr (hw _ (List.mem_of_getElem? (i := 89) rfl))) (Or.inr (hw _ (List.mem_of_getElem? (i := 85) rfl))) (by decide) (by decide) (by decide)))).other W3 (Or.inr (slot_ne (t := (.array .int)) (t' := (.array .int)) (Or.inr (hw _ (List.mem_of_getElem? (i := 89) rfl))) (Or.inr (hw _ (List.mem_of_getElem? (i := 87) rfl))) (by decide) (by decide) (by decide)))).ext E6)
  have f12 := (f7.ext E6)
  obtain ⟨T10, h10, X10, e10, W10, st10⟩ := putF X6 hx hZ hown (host := "") (Or.inl (hw _ (List.mem_of_getElem? (i := 88) rfl))) Via.refl e6 f11 f12 (Or.inr ⟨(hw _ (List.mem_of_getElem? (i := 89) rfl)), rfl, hnm⟩) (hw _ (List.mem_of_getElem? (i := 69) rfl)) (ty := (.array .int)) (by decide) rfl rfl (g := (mkF m 20 #[.val (.ref a), .val (.int p1), .val (.ref r_e), .val (.ref r_d), .unset, .unset, .unset] [(.ref b6), (.ref a)])) rfl rfl (hb hby d13_20)
  have fw10 := f11.same W10
  have N10 := Fr.snoc X10 N3 g_a
  have kk10 : Keep h0 h10 [a] := kk6.wr W10 (Or.inl (List.mem_of_getElem? (i := 0) rfl))
  have zp10 : n0 ≤ h10.size := Nat.le_trans Z0 kk10.1
  refine own_go (fun tgt cont => st10 tgt cont) ?_
  show own_Go p e below s (Q_rm13 Z a p1 r_e r_d es ds h0 n0) 4 105 (T10.setTop (mkF m 23 #[.val (.ref a), .val (.int p1), .val (.ref r_e), .val (.ref r_d), .unset, .unset, .unset] []))
  refine own_go (B := T10.setTop (mkF m 26 #[.val (.ref a), .val (.int p1), .val (.ref r_e), .val (.ref r_d), .val (.int (0 : Int32)), .unset, .unset] [])) (fun tgt cont => ?_) ?_
  · refine XT.iconstV X10.here hx rfl (0 : Int32) (hb hby d13_23) rfl ?_
    refine XS.istore X10.here hx rfl (hb hby d13_24) rfl (l' := #[.val (.ref a), .val (.int p1), .val (.ref r_e), .val (.ref r_d), .val (.int (0 : Int32)), .unset, .unset]) rfl ?_
    exact cont
  have K59 : ∀ (T13 : State) (L13 : List Loc) (h13 : Heap) (o4 : Slot) (X13 : Stand p l e ({ frames := 2, cells := 4, slots := 105, locals := 32 } : Room) s m #[(.ref a), (.int p1), (.ref r_e), (.ref r_d)] below meth c T13 L13 1 9) (e13 : T13.heap = h13) (N13 : Fr n0 L13) (kk13 : Keep h0 h13 [a]) (f13_0 : Exa Z h13 a "com/example/cyclecut/cyclecut/graph/Graph") (f13_1 : Fld Z h13 a "com/example/cyclecut/cyclecut/graph/Graph" "vertexCount" "I" (.int p1)) (f13_2 : Fld Z h13 a "com/example/cyclecut/cyclecut/graph/Graph" "ends" "[I" (.ref r_e)) (f13_3 : Fld Z h13 a "com/example/cyclecut/cyclecut/graph/Graph" "firstSlot" "[I" (.ref b6)) (f13_4 : Fld Z h13 a "com/example/cyclecut/cyclecut/graph/Graph" "slotNeighbor" "[I" .null) (f13_5 : Fld Z h13 a "com/example/cyclecut/cyclecut/graph/Graph" "slotEdge" "[I" .null) (f13_6 : own_IA Z h13 r_e es) (f13_7 : own_IA Z h13 r_d ds) (f13_8 : own_IA Z h13 b6 (own_fsL ds p1.toNatClampNeg (List.replicate (p1.toNatClampNeg + 1) 0))) (f13_9 : Exa Z h13 b6 "[I") (ho4 : o4 = .unset ∨ ∃ w, o4 = .val w ∧ w.category = 1), own_Go p e below s (Q_rm13 Z a p1 r_e r_d es ds h0 n0) 4 105 (T13.setTop (mkF m 59 #[.val (.ref a), .val (.int p1), .val (.ref r_e), .val (.ref r_d), o4, .unset, .unset] [])) := by
    intro T13 L13 h13 o4 X13 e13 N13 kk13 f13_0 f13_1 f13_2 f13_3 f13_4 f13_5 f13_6 f13_7 f13_8 f13_9 ho4
    have zp13 : n0 ≤ h13.size := Nat.le_trans Z0 kk13.1
    refine own_go (B := T13.setTop (mkF m 62 #[.val (.ref a), .val (.int p1), .val (.ref r_e), .val (.ref r_d), o4, .unset, .unset] [(.int (Int32.ofNat es.length)), (.ref a)])) (fun tgt cont => ?_) ?_
    · refine XS.aloadN X13.here hx rfl (hb hby d13_59) rfl rfl ?_
      refine XS.aloadN X13.here hx rfl (hb hby d13_60) rfl rfl ?_
      refine own_lenIA X13 hx hZ e13 f13_6 (g := (mkF m 61 #[.val (.ref a), .val (.int p1), .val (.ref r_e), .val (.ref r_d), o4, .unset, .unset] [(.ref r_e), (.ref a)])) rfl rfl (hb hby d13_61) ?_
      exact cont
    obtain ⟨T14, h14, X14, e14, E14, A14, AE14, st14⟩ := own_newIA X13 hx hZ (hw _ (List.mem_of_getElem? (i := 10) rfl)) e13 (g := (mkF m 62 #[.val (.ref a), .val (.int p1), .val (.ref r_e), .val (.ref r_d), o4, .unset, .unset] [(.int (Int32.ofNat es.length)), (.ref a)])) rfl (hb hby d13_62) rfl (own_nnL A_r_e.small) (cap := 32) (own_capL A_r_e.small h32) (by decide) (by decide) (by decide)
    obtain ⟨b14, g14⟩ : ∃ z, z = h13.size := ⟨_, rfl⟩
    rw [← g14] at A14 AE14 st14
    have g_b14 : n0 ≤ b14 := Nat.le_trans zp13 (Nat.le_of_eq g14.symm)
    have sz_b14 : h0.size ≤ b14 := Nat.le_trans kk13.1 (Nat.le_of_eq g14.symm)
    have ne_a_b14 : a ≠ b14 := Nat.ne_of_lt (by rw [g14]; exact f13_0.lt)
    have ne_r_e_b14 : r_e ≠ b14 := Nat.ne_of_lt (by rw [g14]; exact f13_6.lt)
    have ne_r_d_b14 : r_d ≠ b14 := Nat.ne_of_lt (by rw [g14]; exact f13_7.lt)
    have ne_b6_b14 : b6 ≠ b14 := Nat.ne_of_lt (by rw [g14]; exact f13_8.lt)
    have kk14 : Keep h0 h14 [a] := kk13.ext E14
    have zp14 : n0 ≤ h14.size := Nat.le_trans Z0 kk14.1
    have A14v : own_IA Z h14 b14 (List.replicate es.length 0) := A14.cong (own_repL A_r_e.small)
    refine own_go (fun tgt cont => st14 tgt cont) ?_
    show own_Go p e below s (Q_rm13 Z a p1 r_e r_d es ds h0 n0) 4 105 (T14.setTop (mkF m 64 #[.val (.ref a), .val (.int p1), .val (.ref r_e), .val (.ref r_d), o4, .unset, .unset] [(.ref b14), (.ref a)]))
    have f16 := (f13_4.ext E14)
    have f17 := (f13_0.ext E14)
    obtain ⟨T15, h15, X15, e15, W15, st15⟩ := putF X14 hx hZ hown (host := "") (Or.inl (hw _ (List.mem_of_getElem? (i := 90) rfl))) Via.refl e14 f16 f17 (Or.inr ⟨(hw _ (List.mem_of_getElem? (i := 91) rfl)), rfl, hnm⟩) (hw _ (List.mem_of_getElem? (i := 69) rfl)) (ty := (.array .int)) (by decide) rfl rfl (g := (mkF m 64 #[.val (.ref a), .val (.int p1), .val (.ref r_e), .val (.ref r_d), o4, .unset, .unset] [(.ref b14), (.ref a)])) rfl rfl (hb hby d13_64)
    have fw15 := f16.same W15
    have N15 := Fr.snoc X15 N13 g_a
    have kk15 : Keep h0 h15 [a] := kk14.wr W15 (Or.inl (List.mem_of_getElem? (i := 0) rfl))
    have zp15 : n0 ≤ h15.size := Nat.le_trans Z0 kk15.1
    refine own_go (fun tgt cont => st15 tgt cont) ?_
    show own_Go p e below s (Q_rm13 Z a p1 r_e r_d es ds h0 n0) 4 105 (T15.setTop (mkF m 67 #[.val (.ref a), .val (.int p1), .val (.ref r_e), .val (.ref r_d), o4, .unset, .unset] []))
    have f18 := ((f13_6.ext E14).other W15 (Ne.symm ne_a_r_e))
    refine own_go (B := T15.setTop (mkF m 70 #[.val (.ref a), .val (.int p1), .val (.ref r_e), .val (.ref r_d), o4, .unset, .unset] [(.int (Int32.ofNat es.length)), (.ref a)])) (fun tgt cont => ?_) ?_
    · refine XS.aloadN X15.here hx rfl (hb hby d13_67) rfl rfl ?_
      refine XS.aloadN X15.here hx rfl (hb hby d13_68) rfl rfl ?_
      refine own_lenIA X15 hx hZ e15 f18 (g := (mkF m 69 #[.val (.ref a), .val (.int p1), .val (.ref r_e), .val (.ref r_d), o4, .unset, .unset] [(.ref r_e), (.ref a)])) rfl rfl (hb hby d13_69) ?_
      exact cont
    have f20 := (f17.wr W15)
    have f21 := ((f13_7.ext E14).other W15 (Ne.symm ne_a_r_d))
    have f22 := ((f13_8.ext E14).other W15 (Ne.symm ne_a_b6))
    have f23 := (A14v.other W15 (Ne.symm ne_a_b14))
    obtain ⟨T19, h19, X19, e19, E19, A19, AE19, st19⟩ := own_newIA X15 hx hZ (hw _ (List.mem_of_getElem? (i := 10) rfl)) e15 (g := (mkF m 70 #[.val (.ref a), .val (.int p1), .val (.ref r_e), .val (.ref r_d), o4, .unset, .unset] [(.int (Int32.ofNat es.length)), (.ref a)])) rfl (hb hby d13_70) rfl (own_nnL A_r_e.small) (cap := 32) (own_capL A_r_e.small h32) (by decide) (by decide) (by decide)
    obtain ⟨b19, g19⟩ : ∃ z, z = h15.size := ⟨_, rfl⟩
    rw [← g19] at A19 AE19 st19
    have g_b19 : n0 ≤ b19 := Nat.le_trans zp15 (Nat.le_of_eq g19.symm)
    have sz_b19 : h0.size ≤ b19 := Nat.le_trans kk15.1 (Nat.le_of_eq g19.symm)
    have ne_a_b19 : a ≠ b19 := Nat.ne_of_lt (by rw [g19]; exact f20.lt)
    have ne_r_e_b19 : r_e ≠ b19 := Nat.ne_of_lt (by rw [g19]; exact f18.lt)
    have ne_r_d_b19 : r_d ≠ b19 := Nat.ne_of_lt (by rw [g19]; exact f21.lt)
    have ne_b6_b19 : b6 ≠ b19 := Nat.ne_of_lt (by rw [g19]; exact f22.lt)
    have ne_b14_b19 : b14 ≠ b19 := Nat.ne_of_lt (by rw [g19]; exact f23.lt)
    have kk19 : Keep h0 h19 [a] := kk15.ext E19
    have zp19 : n0 ≤ h19.size := Nat.le_trans Z0 kk19.1
    have A19v : own_IA Z h19 b19 (List.replicate es.length 0) := A19.cong (own_repL A_r_e.small)
    refine own_go (fun tgt cont => st19 tgt cont) ?_
    show own_Go p e below s (Q_rm13 Z a p1 r_e r_d es ds h0 n0) 4 105 (T19.setTop (mkF m 72 #[.val (.ref a), .val (.int p1), .val (.ref r_e), .val (.ref r_d), o4, .unset, .unset] [(.ref b19), (.ref a)]))
    have f25 := (((f13_5.ext E14).other W15 (Or.inr (slot_ne (t := (.array .int)) (t' := (.array .int)) (Or.inr (hw _ (List.mem_of_getElem? (i := 93) rfl))) (Or.inr (hw _ (List.mem_of_getElem? (i := 91) rfl))) (by decide) (by decide) (by decide)))).ext E19)
    have f26 := (f20.ext E19)
    obtain ⟨T24, h24, X24, e24, W24, st24⟩ := putF X19 hx hZ hown (host := "") (Or.inl (hw _ (List.mem_of_getElem? (i := 92) rfl))) Via.refl e19 f25 f26 (Or.inr ⟨(hw _ (List.mem_of_getElem? (i := 93) rfl)), rfl, hnm⟩) (hw _ (List.mem_of_getElem? (i := 69) rfl)) (ty := (.array .int)) (by decide) rfl rfl (g := (mkF m 72 #[.val (.ref a), .val (.int p1), .val (.ref r_e), .val (.ref r_d), o4, .unset, .unset] [(.ref b19), (.ref a)])) rfl rfl (hb hby d13_72)
    have fw24 := f25.same W24
    have N24 := Fr.snoc X24 N15 g_a
    have kk24 : Keep h0 h24 [a] := kk19.wr W24 (Or.inl (List.mem_of_getElem? (i := 0) rfl))
    have zp24 : n0 ≤ h24.size := Nat.le_trans Z0 kk24.1
    refine own_go (fun tgt cont => st24 tgt cont) ?_
    show own_Go p e below s (Q_rm13 Z a p1 r_e r_d es ds h0 n0) 4 105 (T24.setTop (mkF m 75 #[.val (.ref a), .val (.int p1), .val (.ref r_e), .val (.ref r_d), o4, .unset, .unset] []))
    refine own_go (B := T24.setTop (mkF m 76 #[.val (.ref a), .val (.int p1), .val (.ref r_e), .val (.ref r_d), o4, .unset, .unset] [(.ref a)])) (fun tgt cont => ?_) ?_
    · refine XS.aloadN X24.here hx rfl (hb hby d13_75) rfl rfl ?_
      exact cont
    have f28 := ((((f13_3.ext E14).other W15 (Or.inr (slot_ne (t := (.array .int)) (t' := (.array .int)) (Or.inr (hw _ (List.mem_of_getElem? (i := 89) rfl))) (Or.inr (hw _ (List.mem_of_getElem? (i := 91) rfl))) (by decide) (by decide) (by decide)))).ext E19).other W24 (Or.inr (slot_ne (t := (.array .int)) (t' := (.array .int)) (Or.inr (hw _ (List.mem_of_getElem? (i := 89) rfl))) (Or.inr (hw _ (List.mem_of_getElem? (i := 93) rfl))) (by decide) (by decide) (by decide))))
    obtain ⟨T27, X27, e27, st27⟩ := getF X24 hx hZ hown (host := "") (Or.inl (hw _ (List.mem_of_getElem? (i := 88) rfl))) Via.refl e24 f28 (g := (mkF m 76 #[.val (.ref a), .val (.int p1), .val (.ref r_e), .val (.ref r_d), o4, .unset, .unset] [(.ref a)])) rfl rfl (hb hby d13_76)
    refine own_go (fun tgt cont => st27 tgt cont) ?_
    show own_Go p e below s (Q_rm13 Z a p1 r_e r_d es ds h0 n0) 4 105 (T27.setTop (mkF m 79 #[.val (.ref a), .val (.int p1), .val (.ref r_e), .val (.ref r_d), o4, .unset, .unset] [(.ref b6)]))
    refine own_go (B := T27.setTop (mkF m 80 #[.val (.ref a), .val (.int p1), .val (.ref r_e), .val (.ref r_d), o4, .unset, .unset] [(.int p1), (.ref b6)])) (fun tgt cont => ?_) ?_
    · refine XS.iloadN X27.here hx rfl (hb hby d13_79) rfl ?_
      exact cont
    -- pc 80: Arrays.copyOf
    have f30 := ((f22.ext E19).other W24 (Ne.symm ne_a_b6))
    obtain ⟨_, _, ⟨T29, L29, k29, n29⟩, -, X29, ⟨Lc29, hQ29, l29, y29, z29⟩, st29⟩ := Jvm.LawKit.callS X27 hx (y := (⟨"java/util/Arrays", "copyOf", "([II)[I"⟩ : MethodName)) hown (mvT hZ (hw _ (List.mem_of_getElem? (i := 94) rfl))) (mvT hZ (hw _ (List.mem_of_getElem? (i := 45) rfl))) (mvT hZ (hw _ (List.mem_of_getElem? (i := 46) rfl))) (mvT hZ (hw _ (List.mem_of_getElem? (i := 47) rfl))) (by decide) (backOf (W := 0) (rm8 l Z a0 hw [] b6 p1 (own_fsL ds p1.toNatClampNeg (List.replicate (p1.toNatClampNeg + 1) 0)) h24 n0 zp24 f30 (own_cpd hn (own_fsL_len2 ..) h8) hn (Nat.le_trans h8 (by decide))) hZ (hw _ (List.mem_of_getElem? (i := 47) rfl)) (hw _ (List.mem_of_getElem? (i := 46) rfl)) (by decide) (by decide)) (g := (mkF m 80 #[.val (.ref a), .val (.int p1), .val (.ref r_e), .val (.ref r_d), o4, .unset, .unset] [(.int p1), (.ref b6)])) rfl (by rw [hml]; rfl) (argsL := [(.ref b6), (.int p1)]) (rest := []) (lenOf own_pd3 rfl) rfl (by show 2 * 0 + _ ≤ _; exact Nat.le_of_eq rfl) (hb hby d13_80) (fun _ _ => ⟨rfl, e27, (by decide : 1 + 1 + 1 + 1 ≤ _), (by decide : 9 + 32 + 32 + 32 ≤ _)⟩)
    dsimp only [Pt.U, Pt.locs, Pt.cells, Pt.slots] at X29 l29 y29 z29 st29 hQ29
    subst y29 z29
    have f31 := (f26.wr W24)
    have f32 := ((f18.ext E19).other W24 (Ne.symm ne_a_r_e))
    have f33 := ((f21.ext E19).other W24 (Ne.symm ne_a_r_d))
    have f34 := ((f23.ext E19).other W24 (Ne.symm ne_a_b14))
    have f35 := (A19v.other W24 (Ne.symm ne_a_b19))
    obtain ⟨b29, rfl, N29q, K29, gb29, ab29, eb29⟩ := hQ29
    have N29 : Fr n0 L29 := by rw [l29]; exact Fr.app N24 N29q
    have g_b29 : n0 ≤ b29 := Nat.le_trans zp24 gb29
    have sz_b29 : h0.size ≤ b29 := Nat.le_trans kk24.1 gb29
    have ne_a_b29 : a ≠ b29 := Nat.ne_of_lt (Nat.lt_of_lt_of_le f31.lt gb29)
    have ne_r_e_b29 : r_e ≠ b29 := Nat.ne_of_lt (Nat.lt_of_lt_of_le f32.lt gb29)
    have ne_r_d_b29 : r_d ≠ b29 := Nat.ne_of_lt (Nat.lt_of_lt_of_le f33.lt gb29)
    have ne_b6_b29 : b6 ≠ b29 := Nat.ne_of_lt (Nat.lt_of_lt_of_le f30.lt gb29)
    have ne_b14_b29 : b14 ≠ b29 := Nat.ne_of_lt (Nat.lt_of_lt_of_le f34.lt gb29)
    have ne_b19_b29 : b19 ≠ b29 := Nat.ne_of_lt (Nat.lt_of_lt_of_le f35.lt gb29)
    have kk29 : Keep h0 T29.heap [a] := kk24.trans K29 all0
    have zp29 : n0 ≤ T29.heap.size := Nat.le_trans Z0 kk29.1
    refine own_go (fun tgt cont => st29 tgt cont) ?_
    show own_Go p e below s (Q_rm13 Z a p1 r_e r_d es ds h0 n0) 4 105 (T29.setTop (mkF m 83 #[.val (.ref a), .val (.int p1), .val (.ref r_e), .val (.ref r_d), o4, .unset, .unset] [(.ref b29)]))
    refine own_go (B := T29.setTop (mkF m 88 #[.val (.ref a), .val (.int p1), .val (.ref r_e), .val (.ref r_d), .val (.ref b29), .val (.int (0 : Int32)), .unset] [])) (fun tgt cont => ?_) ?_
    · refine XS.astore X29.here hx rfl (hb hby d13_83) rfl rfl (l' := #[.val (.ref a), .val (.int p1), .val (.ref r_e), .val (.ref r_d), .val (.ref b29), .unset, .unset]) (XS.store1 (o := o4) rfl ho4 rfl) ?_
      refine XT.iconstV X29.here hx rfl (0 : Int32) (hb hby d13_85) rfl ?_
      refine XS.istore X29.here hx rfl (hb hby d13_86) rfl (l' := #[.val (.ref a), .val (.int p1), .val (.ref r_e), .val (.ref r_d), .val (.ref b29), .val (.int (0 : Int32)), .unset]) rfl ?_
      exact cont
    have LP2 : ∀ (f : Nat) (T36 : State) (L36 : List Loc) (h36 : Heap) (i : Nat) (qn q1 q2 : List Int32) (o6 : Slot) (X36 : Stand p l e ({ frames := 2, cells := 4, slots := 105, locals := 32 } : Room) s m #[(.ref a), (.int p1), (.ref r_e), (.ref r_d)] below meth c T36 L36 4 105) (e36 : T36.heap = h36) (N36 : Fr n0 L36) (kk36 : Keep h0 h36 [a]) (f36_0 : Exa Z h36 a "com/example/cyclecut/cyclecut/graph/Graph") (f36_1 : Fld Z h36 a "com/example/cyclecut/cyclecut/graph/Graph" "vertexCount" "I" (.int p1)) (f36_2 : Fld Z h36 a "com/example/cyclecut/cyclecut/graph/Graph" "ends" "[I" (.ref r_e)) (f36_3 : Fld Z h36 a "com/example/cyclecut/cyclecut/graph/Graph" "firstSlot" "[I" (.ref b6)) (f36_4 : Fld Z h36 a "com/example/cyclecut/cyclecut/graph/Graph" "slotNeighbor" "[I" (.ref b14)) (f36_5 : Fld Z h36 a "com/example/cyclecut/cyclecut/graph/Graph" "slotEdge" "[I" (.ref b19)) (f36_6 : own_IA Z h36 r_e es) (f36_7 : own_IA Z h36 r_d ds) (f36_8 : own_IA Z h36 b6 (own_fsL ds p1.toNatClampNeg (List.replicate (p1.toNatClampNeg + 1) 0))) (f36_9 : Exa Z h36 b6 "[I") (f36_10 : own_IA Z h36 b14 q1) (f36_11 : Exa Z h36 b14 "[I") (f36_12 : own_IA Z h36 b19 q2) (f36_13 : Exa Z h36 b19 "[I") (f36_14 : Exa Z h36 b29 "[I") (f36_15 : own_IA Z h36 b29 qn) (ho6 : o6 = .unset ∨ ∃ w, o6 = .val w ∧ w.category = 1) (hm : es.length - i < f) (hi : i ≤ es.length) (hqn : qn = own_ln es (own_cof_l p1 (own_fsL ds p1.toNatClampNeg (List.replicate (p1.toNatClampNeg + 1) 0))) i) (hq1 : q1 = own_l1 es (own_cof_l p1 (own_fsL ds p1.toNatClampNeg (List.replicate (p1.toNatClampNeg + 1) 0))) (List.replicate es.length 0) i) (hq2 : q2 = own_l2 es (own_cof_l p1 (own_fsL ds p1.toNatClampNeg (List.replicate (p1.toNatClampNeg + 1) 0))) (List.replicate es.length 0) i), own_Go p e below s (Q_rm13 Z a p1 r_e r_d es ds h0 n0) 4 105 (T36.setTop (mkF m 88 #[.val (.ref a), .val (.int p1), .val (.ref r_e), .val (.ref r_d), .val (.ref b29), .val (.int (Int32.ofNat i)), o6] [])) := by
      intro f
      induction f with
      | zero =>
        intro T36 L36 h36 i qn q1 q2 o6 X36 e36 N36 kk36 f36_0 f36_1 f36_2 f36_3 f36_4 f36_5 f36_6 f36_7 f36_8 f36_9 f36_10 f36_11 f36_12 f36_13 f36_14 f36_15 ho6 hm hi hqn hq1 hq2
        omega
      | succ f ih =>
        intro T36 L36 h36 i qn q1 q2 o6 X36 e36 N36 kk36 f36_0 f36_1 f36_2 f36_3 f36_4 f36_5 f36_6 f36_7 f36_8 f36_9 f36_10 f36_11 f36_12 f36_13 f36_14 f36_15 ho6 hm hi hqn hq1 hq2
        have zp36 : n0 ≤ h36.size := Nat.le_trans Z0 kk36.1
        have hln : qn.length = (own_cof_l p1 (own_fsL ds p1.toNatClampNeg (List.replicate (p1.toNatClampNeg + 1) 0))).length := by rw [hqn, own_ln_len]
        have hl1 : q1.length = es.length := by rw [hq1, own_l1_len, List.length_replicate]
        have hl2 : q2.length = es.length := by rw [hq2, own_l2_len, List.length_replicate]
        refine own_go (B := T36.setTop (mkF m 92 #[.val (.ref a), .val (.int p1), .val (.ref r_e), .val (.ref r_d), .val (.ref b29), .val (.int (Int32.ofNat i)), o6] [(.int (Int32.ofNat es.length)), (.int (Int32.ofNat i))])) (fun tgt cont => ?_) ?_
        · refine XS.iload X36.here hx rfl (hb hby d13_88) rfl ?_
          refine XS.aloadN X36.here hx rfl (hb hby d13_90) rfl rfl ?_
          refine own_lenIA X36 hx hZ e36 f36_6 (g := (mkF m 91 #[.val (.ref a), .val (.int p1), .val (.ref r_e), .val (.ref r_d), .val (.ref b29), .val (.int (Int32.ofNat i)), o6] [(.ref r_e), (.int (Int32.ofNat i))])) rfl rfl (hb hby d13_91) ?_
          exact cont
        by_cases hc37 : (Int32.ofNat i) < (Int32.ofNat es.length)
        ·
          refine own_go (B := T36.setTop (mkF m 106 #[.val (.ref a), .val (.int p1), .val (.ref r_e), .val (.ref r_d), .val (.ref b29), .val (.int (Int32.ofNat i)), o6] [(.int ((qn.getD (es.getD i 0).toNatClampNeg 0) + (1 : Int32))), (.int (es.getD i 0)), (.ref b29), (.int (qn.getD (es.getD i 0).toNatClampNeg 0))])) (fun tgt cont => ?_) ?_
          · refine XS.icmpNo X36.here hx rfl (hb hby d13_92) rfl (XT.ii_ge_f hc37) ?_
            refine XS.aload X36.here hx rfl (hb hby d13_95) rfl rfl ?_
            refine XS.aloadN X36.here hx rfl (hb hby d13_97) rfl rfl ?_
            refine XS.iload X36.here hx rfl (hb hby d13_98) rfl ?_
            refine own_ldIAn X36 hx hZ e36 f36_6 (i := i) (own_ofNat_lt hc37 A_r_e.small hi) (g := (mkF m 100 #[.val (.ref a), .val (.int p1), .val (.ref r_e), .val (.ref r_d), .val (.ref b29), .val (.int (Int32.ofNat i)), o6] [(.int (Int32.ofNat i)), (.ref r_e), (.ref b29)])) rfl rfl (hb hby d13_100) ?_
            refine XT.dup2 X36.here hx rfl (hb hby d13_101) rfl rfl rfl ?_
            refine own_ldIA X36 hx hZ e36 f36_15 (j := (es.getD i 0)) (by rw [hln]; exact (hGB i (own_ofNat_lt hc37 A_r_e.small hi)).1) (g := (mkF m 102 #[.val (.ref a), .val (.int p1), .val (.ref r_e), .val (.ref r_d), .val (.ref b29), .val (.int (Int32.ofNat i)), o6] [(.int (es.getD i 0)), (.ref b29), (.int (es.getD i 0)), (.ref b29)])) rfl rfl (hb hby d13_102) ?_
            jvm_step X36.here [X36.here.top, hx, (hb hby d13_103), Value.category]
            refine XT.iconstV X36.here hx rfl (1 : Int32) (hb hby d13_104) rfl ?_
            refine XS.iadd X36.here hx rfl (hb hby d13_105) rfl ?_
            exact cont
          obtain ⟨T38, h38, X38, e38, W38, A38, st38⟩ := own_stIA X36 hx hZ e36 f36_15 (j := (es.getD i 0)) (x := ((qn.getD (es.getD i 0).toNatClampNeg 0) + (1 : Int32))) (by rw [hln]; exact (hGB i (own_ofNat_lt hc37 A_r_e.small hi)).1) (g := (mkF m 106 #[.val (.ref a), .val (.int p1), .val (.ref r_e), .val (.ref r_d), .val (.ref b29), .val (.int (Int32.ofNat i)), o6] [(.int ((qn.getD (es.getD i 0).toNatClampNeg 0) + (1 : Int32))), (.int (es.getD i 0)), (.ref b29), (.int (qn.getD (es.getD i 0).toNatClampNeg 0))])) rfl rfl (hb hby d13_106)
          have N38 := Fr.snoc X38 N36 g_b29
          have kk38 : Keep h0 h38 [a] := kk36.wr W38 (Or.inr sz_b29)
          have zp38 : n0 ≤ h38.size := Nat.le_trans Z0 kk38.1
          refine own_go (fun tgt cont => st38 tgt cont) ?_
          show own_Go p e below s (Q_rm13 Z a p1 r_e r_d es ds h0 n0) 4 105 (T38.setTop (mkF m 107 #[.val (.ref a), .val (.int p1), .val (.ref r_e), .val (.ref r_d), .val (.ref b29), .val (.int (Int32.ofNat i)), o6] [(.int (qn.getD (es.getD i 0).toNatClampNeg 0))]))
          refine own_go (B := T38.setTop (mkF m 110 #[.val (.ref a), .val (.int p1), .val (.ref r_e), .val (.ref r_d), .val (.ref b29), .val (.int (Int32.ofNat i)), .val (.int (qn.getD (es.getD i 0).toNatClampNeg 0))] [(.ref a)])) (fun tgt cont => ?_) ?_
          · refine XS.istore X38.here hx rfl (hb hby d13_107) rfl (l' := #[.val (.ref a), .val (.int p1), .val (.ref r_e), .val (.ref r_d), .val (.ref b29), .val (.int (Int32.ofNat i)), .val (.int (qn.getD (es.getD i 0).toNatClampNeg 0))]) (XS.store1 (o := o6) rfl ho6 rfl) ?_
            refine XS.aloadN X38.here hx rfl (hb hby d13_109) rfl rfl ?_
            exact cont
          have f40 := (f36_4.other W38 (Or.inl ne_a_b29))
          obtain ⟨T39, X39, e39, st39⟩ := getF X38 hx hZ hown (host := "") (Or.inl (hw _ (List.mem_of_getElem? (i := 90) rfl))) Via.refl e38 f40 (g := (mkF m 110 #[.val (.ref a), .val (.int p1), .val (.ref r_e), .val (.ref r_d), .val (.ref b29), .val (.int (Int32.ofNat i)), .val (.int (qn.getD (es.getD i 0).toNatClampNeg 0))] [(.ref a)])) rfl rfl (hb hby d13_110)
          refine own_go (fun tgt cont => st39 tgt cont) ?_
          show own_Go p e below s (Q_rm13 Z a p1 r_e r_d es ds h0 n0) 4 105 (T39.setTop (mkF m 113 #[.val (.ref a), .val (.int p1), .val (.ref r_e), .val (.ref r_d), .val (.ref b29), .val (.int (Int32.ofNat i)), .val (.int (qn.getD (es.getD i 0).toNatClampNeg 0))] [(.ref b14)]))
          have f41 := (f36_6.other W38 ne_r_e_b29)
          refine own_go (B := T39.setTop (mkF m 121 #[.val (.ref a), .val (.int p1), .val (.ref r_e), .val (.ref r_d), .val (.ref b29), .val (.int (Int32.ofNat i)), .val (.int (qn.getD (es.getD i 0).toNatClampNeg 0))] [(.int (es.getD ((Int32.ofNat i) ^^^ (1 : Int32)).toNatClampNeg 0)), (.int (qn.getD (es.getD i 0).toNatClampNeg 0)), (.ref b14)])) (fun tgt cont => ?_) ?_
          · refine XS.iload X39.here hx rfl (hb hby d13_113) rfl ?_
            refine XS.aloadN X39.here hx rfl (hb hby d13_115) rfl rfl ?_
            refine XS.iload X39.here hx rfl (hb hby d13_116) rfl ?_
            refine XT.iconstV X39.here hx rfl (1 : Int32) (hb hby d13_118) rfl ?_
            refine XS.ixor X39.here hx rfl (hb hby d13_119) rfl ?_
            refine own_ldIA X39 hx hZ e39 f41 (j := ((Int32.ofNat i) ^^^ (1 : Int32))) (hGB i (own_ofNat_lt hc37 A_r_e.small hi)).2.2 (g := (mkF m 120 #[.val (.ref a), .val (.int p1), .val (.ref r_e), .val (.ref r_d), .val (.ref b29), .val (.int (Int32.ofNat i)), .val (.int (qn.getD (es.getD i 0).toNatClampNeg 0))] [(.int ((Int32.ofNat i) ^^^ (1 : Int32))), (.ref r_e), (.int (qn.getD (es.getD i 0).toNatClampNeg 0)), (.ref b14)])) rfl rfl (hb hby d13_120) ?_
            exact cont
          have f42 := (f36_10.other W38 ne_b14_b29)
          obtain ⟨T43, h43, X43, e43, W43, A43, st43⟩ := own_stIA X39 hx hZ e39 f42 (j := (qn.getD (es.getD i 0).toNatClampNeg 0)) (x := (es.getD ((Int32.ofNat i) ^^^ (1 : Int32)).toNatClampNeg 0)) (by rw [hl1, hqn]; exact (hGB i (own_ofNat_lt hc37 A_r_e.small hi)).2.1) (g := (mkF m 121 #[.val (.ref a), .val (.int p1), .val (.ref r_e), .val (.ref r_d), .val (.ref b29), .val (.int (Int32.ofNat i)), .val (.int (qn.getD (es.getD i 0).toNatClampNeg 0))] [(.int (es.getD ((Int32.ofNat i) ^^^ (1 : Int32)).toNatClampNeg 0)), (.int (qn.getD (es.getD i 0).toNatClampNeg 0)), (.ref b14)])) rfl rfl (hb hby d13_121)
          have N43 := Fr.snoc X43 N38 g_b14
          have kk43 : Keep h0 h43 [a] := kk38.wr W43 (Or.inr sz_b14)
          have zp43 : n0 ≤ h43.size := Nat.le_trans Z0 kk43.1
          refine own_go (fun tgt cont => st43 tgt cont) ?_
          show own_Go p e below s (Q_rm13 Z a p1 r_e r_d es ds h0 n0) 4 105 (T43.setTop (mkF m 122 #[.val (.ref a), .val (.int p1), .val (.ref r_e), .val (.ref r_d), .val (.ref b29), .val (.int (Int32.ofNat i)), .val (.int (qn.getD (es.getD i 0).toNatClampNeg 0))] []))
          refine own_go (B := T43.setTop (mkF m 123 #[.val (.ref a), .val (.int p1), .val (.ref r_e), .val (.ref r_d), .val (.ref b29), .val (.int (Int32.ofNat i)), .val (.int (qn.getD (es.getD i 0).toNatClampNeg 0))] [(.ref a)])) (fun tgt cont => ?_) ?_
          · refine XS.aloadN X43.here hx rfl (hb hby d13_122) rfl rfl ?_
            exact cont
          have f45 := ((f36_5.other W38 (Or.inl ne_a_b29)).other W43 (Or.inl ne_a_b14))
          obtain ⟨T44, X44, e44, st44⟩ := getF X43 hx hZ hown (host := "") (Or.inl (hw _ (List.mem_of_getElem? (i := 92) rfl))) Via.refl e43 f45 (g := (mkF m 123 #[.val (.ref a), .val (.int p1), .val (.ref r_e), .val (.ref r_d), .val (.ref b29), .val (.int (Int32.ofNat i)), .val (.int (qn.getD (es.getD i 0).toNatClampNeg 0))] [(.ref a)])) rfl rfl (hb hby d13_123)
          refine own_go (fun tgt cont => st44 tgt cont) ?_
          show own_Go p e below s (Q_rm13 Z a p1 r_e r_d es ds h0 n0) 4 105 (T44.setTop (mkF m 126 #[.val (.ref a), .val (.int p1), .val (.ref r_e), .val (.ref r_d), .val (.ref b29), .val (.int (Int32.ofNat i)), .val (.int (qn.getD (es.getD i 0).toNatClampNeg 0))] [(.ref b19)]))
          refine own_go (B := T44.setTop (mkF m 132 #[.val (.ref a), .val (.int p1), .val (.ref r_e), .val (.ref r_d), .val (.ref b29), .val (.int (Int32.ofNat i)), .val (.int (qn.getD (es.getD i 0).toNatClampNeg 0))] [(.int ((Int32.ofNat i) / (2 : Int32))), (.int (qn.getD (es.getD i 0).toNatClampNeg 0)), (.ref b19)])) (fun tgt cont => ?_) ?_
          · refine XS.iload X44.here hx rfl (hb hby d13_126) rfl ?_
            refine XS.iload X44.here hx rfl (hb hby d13_128) rfl ?_
            refine XT.iconstV X44.here hx rfl (2 : Int32) (hb hby d13_130) rfl ?_
            refine XS.idiv X44.here hx rfl (hb hby d13_131) rfl (by decide) ?_
            exact cont
          have f46 := ((f36_12.other W38 ne_b19_b29).other W43 (Ne.symm ne_b14_b19))
          obtain ⟨T47, h47, X47, e47, W47, A47, st47⟩ := own_stIA X44 hx hZ e44 f46 (j := (qn.getD (es.getD i 0).toNatClampNeg 0)) (x := ((Int32.ofNat i) / (2 : Int32))) (by rw [hl2, hqn]; exact (hGB i (own_ofNat_lt hc37 A_r_e.small hi)).2.1) (g := (mkF m 132 #[.val (.ref a), .val (.int p1), .val (.ref r_e), .val (.ref r_d), .val (.ref b29), .val (.int (Int32.ofNat i)), .val (.int (qn.getD (es.getD i 0).toNatClampNeg 0))] [(.int ((Int32.ofNat i) / (2 : Int32))), (.int (qn.getD (es.getD i 0).toNatClampNeg 0)), (.ref b19)])) rfl rfl (hb hby d13_132)
          have N47 := Fr.snoc X47 N43 g_b19
          have kk47 : Keep h0 h47 [a] := kk43.wr W47 (Or.inr sz_b19)
          have zp47 : n0 ≤ h47.size := Nat.le_trans Z0 kk47.1
          refine own_go (fun tgt cont => st47 tgt cont) ?_
          show own_Go p e below s (Q_rm13 Z a p1 r_e r_d es ds h0 n0) 4 105 (T47.setTop (mkF m 133 #[.val (.ref a), .val (.int p1), .val (.ref r_e), .val (.ref r_d), .val (.ref b29), .val (.int (Int32.ofNat i)), .val (.int (qn.getD (es.getD i 0).toNatClampNeg 0))] []))
          refine own_go (B := T47.setTop (mkF m 88 #[.val (.ref a), .val (.int p1), .val (.ref r_e), .val (.ref r_d), .val (.ref b29), .val (.int ((Int32.ofNat i) + (1 : Int32))), .val (.int (qn.getD (es.getD i 0).toNatClampNeg 0))] [])) (fun tgt cont => ?_) ?_
          · refine XT.iincV X47.here hx rfl (1 : Int32) (hb hby d13_133) rfl rfl (l' := #[.val (.ref a), .val (.int p1), .val (.ref r_e), .val (.ref r_d), .val (.ref b29), .val (.int ((Int32.ofNat i) + (1 : Int32))), .val (.int (qn.getD (es.getD i 0).toNatClampNeg 0))]) rfl ?_
            refine XS.goto X47.here hx rfl (pc0 := 136) (pc' := 88) rfl (hb hby d13_136) (by decide) (by decide) ?_
            exact cont
          rw [own_one]
          have q := own_ofNat_lt hc37 A_r_e.small hi
          have f48 := (((f36_0.wr W38).wr W43).wr W47)
          have f49 := (((f36_1.other W38 (Or.inl ne_a_b29)).other W43 (Or.inl ne_a_b14)).other W47 (Or.inl ne_a_b19))
          have f50 := (((f36_2.other W38 (Or.inl ne_a_b29)).other W43 (Or.inl ne_a_b14)).other W47 (Or.inl ne_a_b19))
          have f51 := (((f36_3.other W38 (Or.inl ne_a_b29)).other W43 (Or.inl ne_a_b14)).other W47 (Or.inl ne_a_b19))
          have f52 := ((f40.other W43 (Or.inl ne_a_b14)).other W47 (Or.inl ne_a_b19))
          have f53 := (f45.other W47 (Or.inl ne_a_b19))
          have f54 := ((f41.other W43 ne_r_e_b14).other W47 ne_r_e_b19)
          have f55 := (((f36_7.other W38 ne_r_d_b29).other W43 ne_r_d_b14).other W47 ne_r_d_b19)
          have f56 := (((f36_8.other W38 ne_b6_b29).other W43 ne_b6_b14).other W47 ne_b6_b19)
          have f57 := (((f36_9.wr W38).wr W43).wr W47)
          have f58 := (A43.other W47 ne_b14_b19)
          have f59 := (((f36_11.wr W38).wr W43).wr W47)
          have f60 := (((f36_13.wr W38).wr W43).wr W47)
          have f61 := (((f36_14.wr W38).wr W43).wr W47)
          have f62 := ((A38.other W43 (Ne.symm ne_b14_b29)).other W47 (Ne.symm ne_b19_b29))
          exact ih _ _ _ (i + 1) _ _ _ _ (own_wide X47 (by decide) (by decide)) e47 N47 kk47 f48 f49 f50 f51 f52 f53 f54 f55 f56 f57 f58 f59 A47 f60 f61 f62 (Or.inr ⟨_, rfl, rfl⟩) (by omega) (by omega) (by rw [hqn]; rfl) (by rw [hq1, hqn]; rfl) (by rw [hq2, hqn]; rfl)
        ·
          refine own_go (B := T36.setTop (mkF m 139 #[.val (.ref a), .val (.int p1), .val (.ref r_e), .val (.ref r_d), .val (.ref b29), .val (.int (Int32.ofNat i)), o6] [])) (fun tgt cont => ?_) ?_
          · refine XS.icmpYes X36.here hx rfl (pc0 := 92) (pc' := 139) rfl (hb hby d13_92) rfl (XT.ii_ge_t hc37) (by decide) (by decide) ?_
            exact cont
          refine own_end X36 (v := none) (fun _ => rfl) hlk ?_ (by decide) (by decide) (fun fs hl => X36.returnOut hx Bd.returns (hb hby d13_139) hl)
          rw [e36]
          exact ⟨_, _, _, rfl, N36, kk36, f36_0, f36_1, f36_2, f36_3, f36_4, f36_5, sz_b6, f36_8, f36_9, sz_b14, (f36_10.cong (by have q := own_geL hc37 A_r_e.small hi; subst q; exact hq1)), f36_11, sz_b19, (f36_12.cong (by have q := own_geL hc37 A_r_e.small hi; subst q; exact hq2)), f36_13, ne_b6_b14, ne_b6_b19, ne_b14_b19⟩
    have f63 := (f31.keep K29)
    have f64 := (((((f13_1.ext E14).other W15 (Or.inr (slot_ne (t := .int) (t' := (.array .int)) (Or.inr (hw _ (List.mem_of_getElem? (i := 85) rfl))) (Or.inr (hw _ (List.mem_of_getElem? (i := 91) rfl))) (by decide) (by decide) (by decide)))).ext E19).other W24 (Or.inr (slot_ne (t := .int) (t' := (.array .int)) (Or.inr (hw _ (List.mem_of_getElem? (i := 85) rfl))) (Or.inr (hw _ (List.mem_of_getElem? (i := 93) rfl))) (by decide) (by decide) (by decide)))).keep K29 nin0)
    have f65 := (((((f13_2.ext E14).other W15 (Or.inr (slot_ne (t := (.array .int)) (t' := (.array .int)) (Or.inr (hw _ (List.mem_of_getElem? (i := 87) rfl))) (Or.inr (hw _ (List.mem_of_getElem? (i := 91) rfl))) (by decide) (by decide) (by decide)))).ext E19).other W24 (Or.inr (slot_ne (t := (.array .int)) (t' := (.array .int)) (Or.inr (hw _ (List.mem_of_getElem? (i := 87) rfl))) (Or.inr (hw _ (List.mem_of_getElem? (i := 93) rfl))) (by decide) (by decide) (by decide)))).keep K29 nin0)
    have f66 := (f28.keep K29 nin0)
    have f67 := (((fw15.ext E19).other W24 (Or.inr (slot_ne (t := (.array .int)) (t' := (.array .int)) (Or.inr (hw _ (List.mem_of_getElem? (i := 91) rfl))) (Or.inr (hw _ (List.mem_of_getElem? (i := 93) rfl))) (by decide) (by decide) (by decide)))).keep K29 nin0)
    have f68 := (fw24.keep K29 nin0)
    have f69 := (f32.keep K29 nin0)
    have f70 := (f33.keep K29 nin0)
    have f71 := (f30.keep K29 nin0)
    have f72 := (((((f13_9.ext E14).wr W15).ext E19).wr W24).keep K29)
    have f73 := (f34.keep K29 nin0)
    have f74 := ((((AE14.wr W15).ext E19).wr W24).keep K29)
    have f75 := (f35.keep K29 nin0)
    have f76 := ((AE19.wr W24).keep K29)
    exact LP2 _ _ _ _ 0 _ _ _ _ (own_wide X29 (by decide) (by decide)) rfl N29 kk29 f63 f64 f65 f66 f67 f68 f69 f70 f71 f72 f73 f74 f75 f76 eb29 ab29 (Or.inl rfl) (Nat.lt_succ_self _) (Nat.zero_le _) rfl rfl rfl
  have LP1 : ∀ (f : Nat) (T77 : State) (L77 : List Loc) (h77 : Heap) (i : Nat) (qs : List Int32) (X77 : Stand p l e ({ frames := 2, cells := 4, slots := 105, locals := 32 } : Room) s m #[(.ref a), (.int p1), (.ref r_e), (.ref r_d)] below meth c T77 L77 1 9) (e77 : T77.heap = h77) (N77 : Fr n0 L77) (kk77 : Keep h0 h77 [a]) (f77_0 : Exa Z h77 a "com/example/cyclecut/cyclecut/graph/Graph") (f77_1 : Fld Z h77 a "com/example/cyclecut/cyclecut/graph/Graph" "vertexCount" "I" (.int p1)) (f77_2 : Fld Z h77 a "com/example/cyclecut/cyclecut/graph/Graph" "ends" "[I" (.ref r_e)) (f77_3 : Fld Z h77 a "com/example/cyclecut/cyclecut/graph/Graph" "firstSlot" "[I" (.ref b6)) (f77_4 : Fld Z h77 a "com/example/cyclecut/cyclecut/graph/Graph" "slotNeighbor" "[I" .null) (f77_5 : Fld Z h77 a "com/example/cyclecut/cyclecut/graph/Graph" "slotEdge" "[I" .null) (f77_6 : own_IA Z h77 r_e es) (f77_7 : own_IA Z h77 r_d ds) (f77_8 : own_IA Z h77 b6 qs) (f77_9 : Exa Z h77 b6 "[I") (hm : p1.toNatClampNeg - i < f) (hi : i ≤ p1.toNatClampNeg) (hq : qs = own_fsL ds i (List.replicate (p1.toNatClampNeg + 1) 0)), own_Go p e below s (Q_rm13 Z a p1 r_e r_d es ds h0 n0) 4 105 (T77.setTop (mkF m 26 #[.val (.ref a), .val (.int p1), .val (.ref r_e), .val (.ref r_d), .val (.int (Int32.ofNat i)), .unset, .unset] [])) := by
    intro f
    induction f with
    | zero =>
      intro T77 L77 h77 i qs X77 e77 N77 kk77 f77_0 f77_1 f77_2 f77_3 f77_4 f77_5 f77_6 f77_7 f77_8 f77_9 hm hi hq
      omega
    | succ f ih =>
      intro T77 L77 h77 i qs X77 e77 N77 kk77 f77_0 f77_1 f77_2 f77_3 f77_4 f77_5 f77_6 f77_7 f77_8 f77_9 hm hi hq
      have zp77 : n0 ≤ h77.size := Nat.le_trans Z0 kk77.1
      have hl : qs.length = p1.toNatClampNeg + 1 := by rw [hq, own_fsL_len, List.length_replicate]
      refine own_go (B := T77.setTop (mkF m 29 #[.val (.ref a), .val (.int p1), .val (.ref r_e), .val (.ref r_d), .val (.int (Int32.ofNat i)), .unset, .unset] [(.int p1), (.int (Int32.ofNat i))])) (fun tgt cont => ?_) ?_
      · refine XS.iload X77.here hx rfl (hb hby d13_26) rfl ?_
        refine XS.iloadN X77.here hx rfl (hb hby d13_28) rfl ?_
        exact cont
      by_cases hc78 : (Int32.ofNat i) < p1
      ·
        refine own_go (B := T77.setTop (mkF m 33 #[.val (.ref a), .val (.int p1), .val (.ref r_e), .val (.ref r_d), .val (.int (Int32.ofNat i)), .unset, .unset] [(.ref a)])) (fun tgt cont => ?_) ?_
        · refine XS.icmpNo X77.here hx rfl (hb hby d13_29) rfl (XT.ii_ge_f hc78) ?_
          refine XS.aloadN X77.here hx rfl (hb hby d13_32) rfl rfl ?_
          exact cont
        obtain ⟨T79, X79, e79, st79⟩ := getF X77 hx hZ hown (host := "") (Or.inl (hw _ (List.mem_of_getElem? (i := 88) rfl))) Via.refl e77 f77_3 (g := (mkF m 33 #[.val (.ref a), .val (.int p1), .val (.ref r_e), .val (.ref r_d), .val (.int (Int32.ofNat i)), .unset, .unset] [(.ref a)])) rfl rfl (hb hby d13_33)
        refine own_go (fun tgt cont => st79 tgt cont) ?_
        show own_Go p e below s (Q_rm13 Z a p1 r_e r_d es ds h0 n0) 4 105 (T79.setTop (mkF m 36 #[.val (.ref a), .val (.int p1), .val (.ref r_e), .val (.ref r_d), .val (.int (Int32.ofNat i)), .unset, .unset] [(.ref b6)]))
        refine own_go (B := T79.setTop (mkF m 40 #[.val (.ref a), .val (.int p1), .val (.ref r_e), .val (.ref r_d), .val (.int (Int32.ofNat i)), .unset, .unset] [(.int ((Int32.ofNat i) + (1 : Int32))), (.ref b6)])) (fun tgt cont => ?_) ?_
        · refine XS.iload X79.here hx rfl (hb hby d13_36) rfl ?_
          refine XT.iconstV X79.here hx rfl (1 : Int32) (hb hby d13_38) rfl ?_
          refine XS.iadd X79.here hx rfl (hb hby d13_39) rfl ?_
          exact cont
        rw [own_one]
        refine own_go (B := T79.setTop (mkF m 41 #[.val (.ref a), .val (.int p1), .val (.ref r_e), .val (.ref r_d), .val (.int (Int32.ofNat i)), .unset, .unset] [(.ref a), (.int (Int32.ofNat (i + 1))), (.ref b6)])) (fun tgt cont => ?_) ?_
        · refine XS.aloadN X79.here hx rfl (hb hby d13_40) rfl rfl ?_
          exact cont
        obtain ⟨T80, X80, e80, st80⟩ := getF X79 hx hZ hown (host := "") (Or.inl (hw _ (List.mem_of_getElem? (i := 88) rfl))) Via.refl e79 f77_3 (g := (mkF m 41 #[.val (.ref a), .val (.int p1), .val (.ref r_e), .val (.ref r_d), .val (.int (Int32.ofNat i)), .unset, .unset] [(.ref a), (.int (Int32.ofNat (i + 1))), (.ref b6)])) rfl rfl (hb hby d13_41)
        refine own_go (fun tgt cont => st80 tgt cont) ?_
        show own_Go p e below s (Q_rm13 Z a p1 r_e r_d es ds h0 n0) 4 105 (T80.setTop (mkF m 44 #[.val (.ref a), .val (.int p1), .val (.ref r_e), .val (.ref r_d), .val (.int (Int32.ofNat i)), .unset, .unset] [(.ref b6), (.int (Int32.ofNat (i + 1))), (.ref b6)]))
        refine own_go (B := T80.setTop (mkF m 52 #[.val (.ref a), .val (.int p1), .val (.ref r_e), .val (.ref r_d), .val (.int (Int32.ofNat i)), .unset, .unset] [(.int ((qs.getD i 0) + (ds.getD i 0))), (.int (Int32.ofNat (i + 1))), (.ref b6)])) (fun tgt cont => ?_) ?_
        · refine XS.iload X80.here hx rfl (hb hby d13_44) rfl ?_
          refine own_ldIAn X80 hx hZ e80 f77_8 (i := i) (by have := own_ltP hc78 hn hi; omega) (g := (mkF m 46 #[.val (.ref a), .val (.int p1), .val (.ref r_e), .val (.ref r_d), .val (.int (Int32.ofNat i)), .unset, .unset] [(.int (Int32.ofNat i)), (.ref b6), (.int (Int32.ofNat (i + 1))), (.ref b6)])) rfl rfl (hb hby d13_46) ?_
          refine XS.aloadN X80.here hx rfl (hb hby d13_47) rfl rfl ?_
          refine XS.iload X80.here hx rfl (hb hby d13_48) rfl ?_
          refine own_ldIAn X80 hx hZ e80 f77_7 (i := i) (by rw [hds]; exact own_ltP hc78 hn hi) (g := (mkF m 50 #[.val (.ref a), .val (.int p1), .val (.ref r_e), .val (.ref r_d), .val (.int (Int32.ofNat i)), .unset, .unset] [(.int (Int32.ofNat i)), (.ref r_d), (.int (qs.getD i 0)), (.int (Int32.ofNat (i + 1))), (.ref b6)])) rfl rfl (hb hby d13_50) ?_
          refine XS.iadd X80.here hx rfl (hb hby d13_51) rfl ?_
          exact cont
        obtain ⟨T81, h81, X81, e81, W81, A81, st81⟩ := own_stIAn X80 hx hZ e80 f77_8 (i := (i + 1)) (x := ((qs.getD i 0) + (ds.getD i 0))) (by have := own_ltP hc78 hn hi; omega) (g := (mkF m 52 #[.val (.ref a), .val (.int p1), .val (.ref r_e), .val (.ref r_d), .val (.int (Int32.ofNat i)), .unset, .unset] [(.int ((qs.getD i 0) + (ds.getD i 0))), (.int (Int32.ofNat (i + 1))), (.ref b6)])) rfl rfl (hb hby d13_52)
        have N81 := Fr.snoc X81 N77 g_b6
        have kk81 : Keep h0 h81 [a] := kk77.wr W81 (Or.inr sz_b6)
        have zp81 : n0 ≤ h81.size := Nat.le_trans Z0 kk81.1
        refine own_go (fun tgt cont => st81 tgt cont) ?_
        show own_Go p e below s (Q_rm13 Z a p1 r_e r_d es ds h0 n0) 4 105 (T81.setTop (mkF m 53 #[.val (.ref a), .val (.int p1), .val (.ref r_e), .val (.ref r_d), .val (.int (Int32.ofNat i)), .unset, .unset] []))
        refine own_go (B := T81.setTop (mkF m 26 #[.val (.ref a), .val (.int p1), .val (.ref r_e), .val (.ref r_d), .val (.int ((Int32.ofNat i) + (1 : Int32))), .unset, .unset] [])) (fun tgt cont => ?_) ?_
        · refine XT.iincV X81.here hx rfl (1 : Int32) (hb hby d13_53) rfl rfl (l' := #[.val (.ref a), .val (.int p1), .val (.ref r_e), .val (.ref r_d), .val (.int ((Int32.ofNat i) + (1 : Int32))), .unset, .unset]) rfl ?_
          refine XS.goto X81.here hx rfl (pc0 := 56) (pc' := 26) rfl (hb hby d13_56) (by decide) (by decide) ?_
          exact cont
        rw [own_one]
        have q := own_ltP hc78 hn hi
        have f82 := (f77_0.wr W81)
        have f83 := (f77_1.other W81 (Or.inl ne_a_b6))
        have f84 := (f77_2.other W81 (Or.inl ne_a_b6))
        have f85 := (f77_3.other W81 (Or.inl ne_a_b6))
        have f86 := (f77_4.other W81 (Or.inl ne_a_b6))
        have f87 := (f77_5.other W81 (Or.inl ne_a_b6))
        have f88 := (f77_6.other W81 ne_r_e_b6)
        have f89 := (f77_7.other W81 ne_r_d_b6)
        have f90 := (f77_9.wr W81)
        exact ih _ _ _ (i + 1) _ (own_wide X81 (by decide) (by decide)) e81 N81 kk81 f82 f83 f84 f85 f86 f87 f88 f89 A81 f90 (by omega) (by omega) (by rw [hq]; rfl)
      ·
        refine own_go (B := T77.setTop (mkF m 59 #[.val (.ref a), .val (.int p1), .val (.ref r_e), .val (.ref r_d), .val (.int (Int32.ofNat i)), .unset, .unset] [])) (fun tgt cont => ?_) ?_
        · refine XS.icmpYes X77.here hx rfl (pc0 := 29) (pc' := 59) rfl (hb hby d13_29) rfl (XT.ii_ge_t hc78) (by decide) (by decide) ?_
          exact cont
        have q := own_geP hc78 hn hi
        subst q
        subst hq
        exact K59 _ _ _ _ (own_wide X77 (by decide) (by decide)) e77 N77 kk77 f77_0 f77_1 f77_2 f77_3 f77_4 f77_5 f77_6 f77_7 f77_8 f77_9 (Or.inr ⟨_, rfl, rfl⟩)
  have f91 := (f12.wr W10)
  have f92 := (((fw2.other W3 (Or.inr (slot_ne (t := .int) (t' := (.array .int)) (Or.inr (hw _ (List.mem_of_getElem? (i := 85) rfl))) (Or.inr (hw _ (List.mem_of_getElem? (i := 87) rfl))) (by decide) (by decide) (by decide)))).ext E6).other W10 (Or.inr (slot_ne (t := .int) (t' := (.array .int)) (Or.inr (hw _ (List.mem_of_getElem? (i := 85) rfl))) (Or.inr (hw _ (List.mem_of_getElem? (i := 89) rfl))) (by decide) (by decide) (by decide))))
  have f93 := ((fw3.ext E6).other W10 (Or.inr (slot_ne (t := (.array .int)) (t' := (.array .int)) (Or.inr (hw _ (List.mem_of_getElem? (i := 87) rfl))) (Or.inr (hw _ (List.mem_of_getElem? (i := 89) rfl))) (by decide) (by decide) (by decide))))
  have f94 := ((((F_a_slotNeighbor.other W2 (Or.inr (slot_ne (t := (.array .int)) (t' := .int) (Or.inr (hw _ (List.mem_of_getElem? (i := 91) rfl))) (Or.inr (hw _ (List.mem_of_getElem? (i := 85) rfl))) (by decide) (by decide) (by decide)))).other W3 (Or.inr (slot_ne (t := (.array .int)) (t' := (.array .int)) (Or.inr (hw _ (List.mem_of_getElem? (i := 91) rfl))) (Or.inr (hw _ (List.mem_of_getElem? (i := 87) rfl))) (by decide) (by decide) (by decide)))).ext E6).other W10 (Or.inr (slot_ne (t := (.array .int)) (t' := (.array .int)) (Or.inr (hw _ (List.mem_of_getElem? (i := 91) rfl))) (Or.inr (hw _ (List.mem_of_getElem? (i := 89) rfl))) (by decide) (by decide) (by decide))))
  have f95 := ((((F_a_slotEdge.other W2 (Or.inr (slot_ne (t := (.array .int)) (t' := .int) (Or.inr (hw _ (List.mem_of_getElem? (i := 93) rfl))) (Or.inr (hw _ (List.mem_of_getElem? (i := 85) rfl))) (by decide) (by decide) (by decide)))).other W3 (Or.inr (slot_ne (t := (.array .int)) (t' := (.array .int)) (Or.inr (hw _ (List.mem_of_getElem? (i := 93) rfl))) (Or.inr (hw _ (List.mem_of_getElem? (i := 87) rfl))) (by decide) (by decide) (by decide)))).ext E6).other W10 (Or.inr (slot_ne (t := (.array .int)) (t' := (.array .int)) (Or.inr (hw _ (List.mem_of_getElem? (i := 93) rfl))) (Or.inr (hw _ (List.mem_of_getElem? (i := 89) rfl))) (by decide) (by decide) (by decide))))
  have f96 := ((f8.ext E6).other W10 (Ne.symm ne_a_r_e))
  have f97 := ((f9.ext E6).other W10 (Ne.symm ne_a_r_d))
  have f98 := (A6v.other W10 (Ne.symm ne_a_b6))
  have f99 := (AE6.wr W10)
  exact LP1 _ _ _ _ 0 _ (own_wide X10 (by decide) (by decide)) e10 N10 kk10 f91 f92 f93 fw10 f94 f95 f96 f97 f98 f99 (Nat.lt_succ_self _) (Nat.zero_le _) rfl
def Q_rm12 (Z : State) (a : Addr) (u_v : Int32) (u_d : Addr) (u_e : Addr) (u_c : Int32) (ds : List Int32) (es : List Int32) (h0 : Heap) (n0 : Nat) (v : Option Value) (h : Heap) (L : List Loc) : Prop := ∃ xg xe xf xn xs : Addr, v = some (.ref xg) ∧ Fr n0 L ∧ Keep h0 h [] ∧ h0.size ≤ xg ∧ Exa Z h xg "com/example/cyclecut/cyclecut/graph/Graph" ∧ Fld Z h xg "com/example/cyclecut/cyclecut/graph/Graph" "vertexCount" "I" (.int u_v) ∧ Fld Z h xg "com/example/cyclecut/cyclecut/graph/Graph" "ends" "[I" (.ref xe) ∧ Fld Z h xg "com/example/cyclecut/cyclecut/graph/Graph" "firstSlot" "[I" (.ref xf) ∧ Fld Z h xg "com/example/cyclecut/cyclecut/graph/Graph" "slotNeighbor" "[I" (.ref xn) ∧ Fld Z h xg "com/example/cyclecut/cyclecut/graph/Graph" "slotEdge" "[I" (.ref xs) ∧ own_IA Z h xe (own_cof_l ((2 : Int32) * u_c) es) ∧ own_IA Z h xf (own_fsL ds u_v.toNatClampNeg (List.replicate (u_v.toNatClampNeg + 1) 0)) ∧ own_IA Z h xn (own_l1 (own_cof_l ((2 : Int32) * u_c) es) (own_cof_l u_v (own_fsL ds u_v.toNatClampNeg (List.replicate (u_v.toNatClampNeg + 1) 0))) (List.replicate (own_cof_l ((2 : Int32) * u_c) es).length 0) (own_cof_l ((2 : Int32) * u_c) es).length) ∧ own_IA Z h xs (own_l2 (own_cof_l ((2 : Int32) * u_c) es) (own_cof_l u_v (own_fsL ds u_v.toNatClampNeg (List.replicate (u_v.toNatClampNeg + 1) 0))) (List.replicate (own_cof_l ((2 : Int32) * u_c) es).length 0) (own_cof_l ((2 : Int32) * u_c) es).length)
theorem own_pd4 : parseMethodDescriptor "(I[I[I)V" = some ⟨[.int, (.array .int), (.array .int)], none⟩ := by decide +kernel
theorem d12_0 : decode prog_25_method_4_code 0 = .ok (.new 62, 3) := by decide +kernel
theorem d12_3 : decode prog_25_method_4_code 3 = .ok (.dup, 1) := by decide +kernel
theorem d12_4 : decode prog_25_method_4_code 4 = .ok (.aload_n 0, 1) := by decide +kernel
theorem d12_5 : decode prog_25_method_4_code 5 = .ok (.getfield 24, 3) := by decide +kernel
theorem d12_8 : decode prog_25_method_4_code 8 = .ok (.aload_n 0, 1) := by decide +kernel
theorem d12_9 : decode prog_25_method_4_code 9 = .ok (.getfield 9, 3) := by decide +kernel
theorem d12_12 : decode prog_25_method_4_code 12 = .ok (.iconst 2, 1) := by decide +kernel
theorem d12_13 : decode prog_25_method_4_code 13 = .ok (.aload_n 0, 1) := by decide +kernel
theorem d12_14 : decode prog_25_method_4_code 14 = .ok (.getfield 37, 3) := by decide +kernel
theorem d12_17 : decode prog_25_method_4_code 17 = .ok (.imul, 1) := by decide +kernel
theorem d12_18 : decode prog_25_method_4_code 18 = .ok (.invokestatic 56, 3) := by decide +kernel
theorem d12_21 : decode prog_25_method_4_code 21 = .ok (.aload_n 0, 1) := by decide +kernel
theorem d12_22 : decode prog_25_method_4_code 22 = .ok (.getfield 28, 3) := by decide +kernel
theorem d12_25 : decode prog_25_method_4_code 25 = .ok (.invokevirtual 64, 3) := by decide +kernel
theorem d12_28 : decode prog_25_method_4_code 28 = .ok (.checkcast 65, 3) := by decide +kernel
theorem d12_31 : decode prog_25_method_4_code 31 = .ok (.invokespecial 69, 3) := by decide +kernel
theorem d12_34 : decode prog_25_method_4_code 34 = .ok (.areturn, 1) := by decide +kernel
set_option maxRecDepth 65536 in
set_option maxHeartbeats 40000000 in
theorem rm12 (l : Launch) (Z : State) (a0 : Array Value) (hw : ∀ d ∈ tables_1, d.before a0 Z = true) (ws : List Jvm.Cond) (a : Addr) (u_v : Int32) (u_d : Addr) (u_e : Addr) (u_c : Int32) (ds : List Int32) (es : List Int32) (h0 : Heap) (n0 : Nat) (Z0 : n0 ≤ h0.size) (E_a : Exa Z h0 a "com/example/cyclecut/cyclecut/graph/Graph$Builder") (F_a_vertexCount : Fld Z h0 a "com/example/cyclecut/cyclecut/graph/Graph$Builder" "vertexCount" "I" (.int u_v)) (F_a_degree : Fld Z h0 a "com/example/cyclecut/cyclecut/graph/Graph$Builder" "degree" "[I" (.ref u_d)) (F_a_ends : Fld Z h0 a "com/example/cyclecut/cyclecut/graph/Graph$Builder" "ends" "[I" (.ref u_e)) (F_a_edgeCount : Fld Z h0 a "com/example/cyclecut/cyclecut/graph/Graph$Builder" "edgeCount" "I" (.int u_c)) (A_u_d : own_IA Z h0 u_d ds) (EX_d : Exa Z h0 u_d "[I") (A_u_e : own_IA Z h0 u_e es) (hd : ¬ ((2 : Int32) * u_c) = (Int32.ofNat es.length)) (hn2 : ¬ ((2 : Int32) * u_c) < 0) (h32 : ((2 : Int32) * u_c).toNatClampNeg ≤ 32) (hn : ¬ u_v < 0) (h8 : u_v.toNatClampNeg ≤ 8) (hle : (own_cof_l ((2 : Int32) * u_c) es).length ≤ 32) (hds : ds.length = u_v.toNatClampNeg) (hGB : own_GB (own_cof_l ((2 : Int32) * u_c) es) (own_cof_l u_v (own_fsL ds u_v.toNatClampNeg (List.replicate (u_v.toNatClampNeg + 1) 0)))) :
    MetFree l (⟨"com/example/cyclecut/cyclecut/graph/Graph$Builder", "build", "()Lcom/example/cyclecut/cyclecut/graph/Graph;"⟩ : MethodName) (head1 (Jvm.Cond.code (⟨"com/example/cyclecut/cyclecut/graph/Graph$Builder", "build", "()Lcom/example/cyclecut/cyclecut/graph/Graph;"⟩ : MethodName) prog_25_method_4_code 1 (some (.object "com/example/cyclecut/cyclecut/graph/Graph")) :: ws) ({ frames := 3, cells := 7, slots := 150, locals := 51 } : Room)) (fun aa U => aa = #[(.ref a)] ∧ Z.Warmed39 U.vm ∧ U.heap = h0) (fun _ _ _ _ _ => True) (fun _ U o U' => ∃ v L, o = .returned v ∧ Q_rm12 Z a u_v u_d u_e u_c ds es h0 n0 v U'.heap L ∧ FrameEnd U o U' L ({ frames := 3, cells := 7, slots := 150, locals := 51 } : Room).cells ({ frames := 3, cells := 7, slots := 150, locals := 51 } : Room).slots) := by
  refine MetFree.of_bodySF (plainFor_of_name own_pn2) hisR ?_
  intro p e s m args below meth c s₁ Bd hml0 hP hK
  obtain ⟨rfl, hZ, hh⟩ := hP
  have hx := Bd.exec
  have hby := Bd.bytes
  have hml : c.maxLocals = 1 := hml0
  have hlk : meth.locks = false := BodyLoose.notSynchronized Bd
  have hown : s.vm.findClass "com/example/cyclecut/cyclecut/graph/Graph$Builder" = some m.cls := findClass_of_methodNamed Bd.named
  have hnm := (name_of_methodNamed Bd.named Bd.method).1
  have X0 : Stand p l e ({ frames := 3, cells := 7, slots := 150, locals := 51 } : Room) s m #[(.ref a)] below meth c s₁ [] 0 0 := Stand.of_body Bd
  have e0 : s₁.heap = h0 := by rw [← hh, Bd.state]; rfl
  have N0 := Fr.nil n0
  show own_Go p e below s (Q_rm12 Z a u_v u_d u_e u_c ds es h0 n0) 7 150 (s₁.setTop (entryFrame m #[(.ref a)] 1))
  refine own_go (B := s₁.setTop (mkF m 0 #[.val (.ref a)] [])) (fun tgt cont => (XT.entry rfl).trans cont) ?_
  obtain ⟨T1, h1, X1, e1, E1, A1, D1, -, st1⟩ := newO X0 hx hZ hown (hw _ (List.mem_of_getElem? (i := 68) rfl)) (hw _ (List.mem_of_getElem? (i := 69) rfl)) (hw _ (List.mem_of_getElem? (i := 70) rfl)) e0 (g := (mkF m 0 #[.val (.ref a)] [])) rfl (hb hby d12_0) (by decide) (by decide)
  obtain ⟨b1, g1⟩ : ∃ z, z = h0.size := ⟨_, rfl⟩
  rw [← g1] at A1 D1 st1
  have g_b1 : n0 ≤ b1 := Nat.le_trans Z0 (Nat.le_of_eq g1.symm)
  have sz_b1 : h0.size ≤ b1 := Nat.le_trans (Keep.refl h0 []).1 (Nat.le_of_eq g1.symm)
  have ne_a_b1 : a ≠ b1 := Nat.ne_of_lt (by rw [g1]; exact E_a.lt)
  have ne_u_d_b1 : u_d ≠ b1 := Nat.ne_of_lt (by rw [g1]; exact A_u_d.lt)
  have ne_u_e_b1 : u_e ≠ b1 := Nat.ne_of_lt (by rw [g1]; exact A_u_e.lt)
  have kk1 : Keep h0 h1 [] := (Keep.refl h0 []).ext E1
  have zp1 : n0 ≤ h1.size := Nat.le_trans Z0 kk1.1
  have F_vertexCount_b1 : Fld Z h1 b1 "com/example/cyclecut/cyclecut/graph/Graph" "vertexCount" "I" (.int (0 : Int32)) := D1 (Or.inr (hw _ (List.mem_of_getElem? (i := 85) rfl))) (ty := .int) (by decide)
  have F_ends_b1 : Fld Z h1 b1 "com/example/cyclecut/cyclecut/graph/Graph" "ends" "[I" .null := D1 (Or.inr (hw _ (List.mem_of_getElem? (i := 87) rfl))) (ty := (.array .int)) (by decide)
  have F_firstSlot_b1 : Fld Z h1 b1 "com/example/cyclecut/cyclecut/graph/Graph" "firstSlot" "[I" .null := D1 (Or.inr (hw _ (List.mem_of_getElem? (i := 89) rfl))) (ty := (.array .int)) (by decide)
  have F_slotNeighbor_b1 : Fld Z h1 b1 "com/example/cyclecut/cyclecut/graph/Graph" "slotNeighbor" "[I" .null := D1 (Or.inr (hw _ (List.mem_of_getElem? (i := 91) rfl))) (ty := (.array .int)) (by decide)
  have F_slotEdge_b1 : Fld Z h1 b1 "com/example/cyclecut/cyclecut/graph/Graph" "slotEdge" "[I" .null := D1 (Or.inr (hw _ (List.mem_of_getElem? (i := 93) rfl))) (ty := (.array .int)) (by decide)
  refine own_go (fun tgt cont => st1 tgt cont) ?_
  show own_Go p e below s (Q_rm12 Z a u_v u_d u_e u_c ds es h0 n0) 7 150 (T1.setTop (mkF m 3 #[.val (.ref a)] [(.ref b1)]))
  refine own_go (B := T1.setTop (mkF m 5 #[.val (.ref a)] [(.ref a), (.ref b1), (.ref b1)])) (fun tgt cont => ?_) ?_
  · refine XS.dup X1.here hx rfl (hb hby d12_3) rfl rfl ?_
    refine XS.aloadN X1.here hx rfl (hb hby d12_4) rfl rfl ?_
    exact cont
  have f3 := (F_a_vertexCount.ext E1)
  obtain ⟨T2, X2, e2, st2⟩ := getF X1 hx hZ hown (host := "") (Or.inl (hw _ (List.mem_of_getElem? (i := 13) rfl))) Via.refl e1 f3 (g := (mkF m 5 #[.val (.ref a)] [(.ref a), (.ref b1), (.ref b1)])) rfl rfl (hb hby d12_5)
  refine own_go (fun tgt cont => st2 tgt cont) ?_
  show own_Go p e below s (Q_rm12 Z a u_v u_d u_e u_c ds es h0 n0) 7 150 (T2.setTop (mkF m 8 #[.val (.ref a)] [(.int u_v), (.ref b1), (.ref b1)]))
  refine own_go (B := T2.setTop (mkF m 9 #[.val (.ref a)] [(.ref a), (.int u_v), (.ref b1), (.ref b1)])) (fun tgt cont => ?_) ?_
  · refine XS.aloadN X2.here hx rfl (hb hby d12_8) rfl rfl ?_
    exact cont
  have f5 := (F_a_ends.ext E1)
  obtain ⟨T4, X4, e4, st4⟩ := getF X2 hx hZ hown (host := "") (Or.inl (hw _ (List.mem_of_getElem? (i := 11) rfl))) Via.refl e2 f5 (g := (mkF m 9 #[.val (.ref a)] [(.ref a), (.int u_v), (.ref b1), (.ref b1)])) rfl rfl (hb hby d12_9)
  refine own_go (fun tgt cont => st4 tgt cont) ?_
  show own_Go p e below s (Q_rm12 Z a u_v u_d u_e u_c ds es h0 n0) 7 150 (T4.setTop (mkF m 12 #[.val (.ref a)] [(.ref u_e), (.int u_v), (.ref b1), (.ref b1)]))
  refine own_go (B := T4.setTop (mkF m 14 #[.val (.ref a)] [(.ref a), (.int (2 : Int32)), (.ref u_e), (.int u_v), (.ref b1), (.ref b1)])) (fun tgt cont => ?_) ?_
  · refine XT.iconstV X4.here hx rfl (2 : Int32) (hb hby d12_12) rfl ?_
    refine XS.aloadN X4.here hx rfl (hb hby d12_13) rfl rfl ?_
    exact cont
  have f7 := (F_a_edgeCount.ext E1)
  obtain ⟨T6, X6, e6, st6⟩ := getF X4 hx hZ hown (host := "") (Or.inl (hw _ (List.mem_of_getElem? (i := 35) rfl))) Via.refl e4 f7 (g := (mkF m 14 #[.val (.ref a)] [(.ref a), (.int (2 : Int32)), (.ref u_e), (.int u_v), (.ref b1), (.ref b1)])) rfl rfl (hb hby d12_14)
  refine own_go (fun tgt cont => st6 tgt cont) ?_
  show own_Go p e below s (Q_rm12 Z a u_v u_d u_e u_c ds es h0 n0) 7 150 (T6.setTop (mkF m 17 #[.val (.ref a)] [(.int u_c), (.int (2 : Int32)), (.ref u_e), (.int u_v), (.ref b1), (.ref b1)]))
  refine own_go (B := T6.setTop (mkF m 18 #[.val (.ref a)] [(.int ((2 : Int32) * u_c)), (.ref u_e), (.int u_v), (.ref b1), (.ref b1)])) (fun tgt cont => ?_) ?_
  · refine XS.imul X6.here hx rfl (hb hby d12_17) rfl ?_
    exact cont
  -- pc 18: Arrays.copyOf
  have f9 := (A_u_e.ext E1)
  obtain ⟨_, _, ⟨T8, L8, k8, n8⟩, -, X8, ⟨Lc8, hQ8, l8, y8, z8⟩, st8⟩ := Jvm.LawKit.callS X6 hx (y := (⟨"java/util/Arrays", "copyOf", "([II)[I"⟩ : MethodName)) hown (mvT hZ (hw _ (List.mem_of_getElem? (i := 44) rfl))) (mvT hZ (hw _ (List.mem_of_getElem? (i := 45) rfl))) (mvT hZ (hw _ (List.mem_of_getElem? (i := 46) rfl))) (mvT hZ (hw _ (List.mem_of_getElem? (i := 47) rfl))) (by decide) (backOf (W := 3) (rm8 l Z a0 hw [] u_e ((2 : Int32) * u_c) es h1 n0 zp1 f9 hd hn2 h32) hZ (hw _ (List.mem_of_getElem? (i := 47) rfl)) (hw _ (List.mem_of_getElem? (i := 46) rfl)) (by decide) (by decide)) (g := (mkF m 18 #[.val (.ref a)] [(.int ((2 : Int32) * u_c)), (.ref u_e), (.int u_v), (.ref b1), (.ref b1)])) rfl (by rw [hml]; rfl) (argsL := [(.ref u_e), (.int ((2 : Int32) * u_c))]) (rest := [(.int u_v), (.ref b1), (.ref b1)]) (lenOf own_pd3 rfl) rfl (by show 2 * 0 + _ ≤ _; exact Nat.le_of_eq rfl) (hb hby d12_18) (fun _ _ => ⟨rfl, e6, (by decide : 0 + 1 + 1 ≤ _), (by decide : 0 + 5 + 32 ≤ _)⟩)
  dsimp only [Pt.U, Pt.locs, Pt.cells, Pt.slots] at X8 l8 y8 z8 st8 hQ8
  subst y8 z8
  have f10 := (E_a.ext E1)
  have f11 := (A_u_d.ext E1)
  obtain ⟨b8, rfl, N8q, K8, gb8, ab8, eb8⟩ := hQ8
  have N8 : Fr n0 L8 := by rw [l8]; exact Fr.app N0 N8q
  have g_b8 : n0 ≤ b8 := Nat.le_trans zp1 gb8
  have sz_b8 : h0.size ≤ b8 := Nat.le_trans kk1.1 gb8
  have ne_a_b8 : a ≠ b8 := Nat.ne_of_lt (Nat.lt_of_lt_of_le f10.lt gb8)
  have ne_u_d_b8 : u_d ≠ b8 := Nat.ne_of_lt (Nat.lt_of_lt_of_le f11.lt gb8)
  have ne_u_e_b8 : u_e ≠ b8 := Nat.ne_of_lt (Nat.lt_of_lt_of_le f9.lt gb8)
  have ne_b1_b8 : b1 ≠ b8 := Nat.ne_of_lt (Nat.lt_of_lt_of_le A1.lt gb8)
  have kk8 : Keep h0 T8.heap [] := kk1.trans K8 all0
  have zp8 : n0 ≤ T8.heap.size := Nat.le_trans Z0 kk8.1
  refine own_go (fun tgt cont => st8 tgt cont) ?_
  show own_Go p e below s (Q_rm12 Z a u_v u_d u_e u_c ds es h0 n0) 7 150 (T8.setTop (mkF m 21 #[.val (.ref a)] [(.ref b8), (.int u_v), (.ref b1), (.ref b1)]))
  refine own_go (B := T8.setTop (mkF m 22 #[.val (.ref a)] [(.ref a), (.ref b8), (.int u_v), (.ref b1), (.ref b1)])) (fun tgt cont => ?_) ?_
  · refine XS.aloadN X8.here hx rfl (hb hby d12_21) rfl rfl ?_
    exact cont
  have f13 := ((F_a_degree.ext E1).keep K8 nin0)
  obtain ⟨T12, X12, e12, st12⟩ := getF X8 hx hZ hown (host := "") (Or.inl (hw _ (List.mem_of_getElem? (i := 15) rfl))) Via.refl rfl f13 (g := (mkF m 22 #[.val (.ref a)] [(.ref a), (.ref b8), (.int u_v), (.ref b1), (.ref b1)])) rfl rfl (hb hby d12_22)
  refine own_go (fun tgt cont => st12 tgt cont) ?_
  show own_Go p e below s (Q_rm12 Z a u_v u_d u_e u_c ds es h0 n0) 7 150 (T12.setTop (mkF m 25 #[.val (.ref a)] [(.ref u_d), (.ref b8), (.int u_v), (.ref b1), (.ref b1)]))
  have f15 := (f11.keep K8 nin0)
  have f16 := ((EX_d.ext E1).keep K8)
  have f17 := (f10.keep K8)
  have f18 := (f9.keep K8 nin0)
  have f19 := (A1.keep K8)
  obtain ⟨T14, h14, X14, e14, E14, A14, AE14, st14⟩ := own_cloneIA X12 hx hZ hown (hw _ (List.mem_of_getElem? (i := 71) rfl)) (hw _ (List.mem_of_getElem? (i := 72) rfl)) (hw _ (List.mem_of_getElem? (i := 76) rfl)) (hw _ (List.mem_of_getElem? (i := 74) rfl)) (hw _ (List.mem_of_getElem? (i := 75) rfl)) (hw _ (List.mem_of_getElem? (i := 77) rfl)) e12 f15 f16 (g := (mkF m 25 #[.val (.ref a)] [(.ref u_d), (.ref b8), (.int u_v), (.ref b1), (.ref b1)])) rfl (by rw [hml]; rfl) rfl (hb hby d12_25) (by decide) (W := 4) (cap := 8) (by show 2 * 0 + _ ≤ _; exact Nat.le_of_eq rfl) (by decide) (by rw [hds]; exact h8) (by decide) (by decide)
  obtain ⟨b14, g14⟩ : ∃ z, z = T8.heap.size := ⟨_, rfl⟩
  rw [← g14] at A14 AE14 st14
  have g_b14 : n0 ≤ b14 := Nat.le_trans zp8 (Nat.le_of_eq g14.symm)
  have sz_b14 : h0.size ≤ b14 := Nat.le_trans kk8.1 (Nat.le_of_eq g14.symm)
  have ne_a_b14 : a ≠ b14 := Nat.ne_of_lt (by rw [g14]; exact f17.lt)
  have ne_u_d_b14 : u_d ≠ b14 := Nat.ne_of_lt (by rw [g14]; exact f15.lt)
  have ne_u_e_b14 : u_e ≠ b14 := Nat.ne_of_lt (by rw [g14]; exact f18.lt)
  have ne_b1_b14 : b1 ≠ b14 := Nat.ne_of_lt (by rw [g14]; exact f19.lt)
  have ne_b8_b14 : b8 ≠ b14 := Nat.ne_of_lt (by rw [g14]; exact eb8.lt)
  have kk14 : Keep h0 h14 [] := kk8.ext E14
  have zp14 : n0 ≤ h14.size := Nat.le_trans Z0 kk14.1
  refine own_go (fun tgt cont => st14 tgt cont) ?_
  show own_Go p e below s (Q_rm12 Z a u_v u_d u_e u_c ds es h0 n0) 7 150 (T14.setTop (mkF m 28 #[.val (.ref a)] [(.ref b14), (.ref b8), (.int u_v), (.ref b1), (.ref b1)]))
  obtain ⟨T20, X20, e20, st20⟩ := castY X14 hx hZ hown (hw _ (List.mem_of_getElem? (i := 78) rfl)) e14 (Ins.of_exa AE14 (hw _ (List.mem_of_getElem? (i := 79) rfl))) (g := (mkF m 28 #[.val (.ref a)] [(.ref b14), (.ref b8), (.int u_v), (.ref b1), (.ref b1)])) rfl rfl (hb hby d12_28)
  refine own_go (fun tgt cont => st20 tgt cont) ?_
  show own_Go p e below s (Q_rm12 Z a u_v u_d u_e u_c ds es h0 n0) 7 150 (T20.setTop (mkF m 31 #[.val (.ref a)] [(.ref b14), (.ref b8), (.int u_v), (.ref b1), (.ref b1)]))
  -- pc 31: Graph.<init>
  have f22 := (f19.ext E14)
  have f23 := ((F_vertexCount_b1.keep K8 nin0).ext E14)
  have f24 := ((F_ends_b1.keep K8 nin0).ext E14)
  have f25 := ((F_firstSlot_b1.keep K8 nin0).ext E14)
  have f26 := ((F_slotNeighbor_b1.keep K8 nin0).ext E14)
  have f27 := ((F_slotEdge_b1.keep K8 nin0).ext E14)
  have f28 := (ab8.ext E14)
  obtain ⟨_, _, ⟨T21, L21, k21, n21⟩, -, X21, ⟨Lc21, hQ21, l21, y21, z21⟩, st21⟩ := X20.specialBackNest hx (y := (⟨"com/example/cyclecut/cyclecut/graph/Graph", "<init>", "(I[I[I)V"⟩ : MethodName)) rfl hown (own_mvNM hZ (hw _ (List.mem_of_getElem? (i := 80) rfl))) (mvT hZ (hw _ (List.mem_of_getElem? (i := 81) rfl))) (mvT hZ (hw _ (List.mem_of_getElem? (i := 82) rfl))) (by decide) (backOf (W := 1) (rm13 l Z a0 hw [] b1 u_v b8 b14 (own_cof_l ((2 : Int32) * u_c) es) ds h14 n0 zp14 f22 f23 f24 f25 f26 f27 g_b1 f28 A14 hn h8 hle hds hGB) hZ (hw _ (List.mem_of_getElem? (i := 82) rfl)) (hw _ (List.mem_of_getElem? (i := 70) rfl)) (by decide) (by decide)) (g := (mkF m 31 #[.val (.ref a)] [(.ref b14), (.ref b8), (.int u_v), (.ref b1), (.ref b1)])) rfl (by rw [hml]; rfl) (Steps.refl _) (a := b1) (argsL := [(.int u_v), (.ref b8), (.ref b14)]) (rest := [(.ref b1)]) (lenOf own_pd4 rfl) rfl (by show 2 * 0 + _ ≤ _; exact Nat.le_of_eq rfl) (hb hby d12_31) (fun _ _ => ⟨rfl, e20, (by decide : 0 + 1 + 1 + 1 + 4 ≤ _), (by decide : 0 + 5 + 32 + 8 + 105 ≤ _)⟩)
  dsimp only [Pt.U, Pt.locs, Pt.cells, Pt.slots] at X21 l21 y21 z21 st21 hQ21
  subst y21 z21
  have f29 := (f17.ext E14)
  have f30 := (f15.ext E14)
  have f31 := (f18.ext E14)
  have f32 := (eb8.ext E14)
  obtain ⟨b21_0, b21_1, b21_2, rfl, N21q, K21, ex21_0, fa21_0, fa21_1, fa21_2, fa21_3, fa21_4, gb21_0, ab21_0, eb21_0, gb21_1, ab21_1, eb21_1, gb21_2, ab21_2, eb21_2, ne_b21_0_b21_1, ne_b21_0_b21_2, ne_b21_1_b21_2⟩ := hQ21
  have N21 : Fr n0 L21 := by rw [l21]; exact Fr.app N8 N21q
  have g_b21_0 : n0 ≤ b21_0 := Nat.le_trans zp14 gb21_0
  have sz_b21_0 : h0.size ≤ b21_0 := Nat.le_trans kk14.1 gb21_0
  have ne_a_b21_0 : a ≠ b21_0 := Nat.ne_of_lt (Nat.lt_of_lt_of_le f29.lt gb21_0)
  have ne_u_d_b21_0 : u_d ≠ b21_0 := Nat.ne_of_lt (Nat.lt_of_lt_of_le f30.lt gb21_0)
  have ne_u_e_b21_0 : u_e ≠ b21_0 := Nat.ne_of_lt (Nat.lt_of_lt_of_le f31.lt gb21_0)
  have ne_b1_b21_0 : b1 ≠ b21_0 := Nat.ne_of_lt (Nat.lt_of_lt_of_le f22.lt gb21_0)
  have ne_b8_b21_0 : b8 ≠ b21_0 := Nat.ne_of_lt (Nat.lt_of_lt_of_le f32.lt gb21_0)
  have ne_b14_b21_0 : b14 ≠ b21_0 := Nat.ne_of_lt (Nat.lt_of_lt_of_le A14.lt gb21_0)
  have g_b21_1 : n0 ≤ b21_1 := Nat.le_trans zp14 gb21_1
  have sz_b21_1 : h0.size ≤ b21_1 := Nat.le_trans kk14.1 gb21_1
  have ne_a_b21_1 : a ≠ b21_1 := Nat.ne_of_lt (Nat.lt_of_lt_of_le f29.lt gb21_1)
  have ne_u_d_b21_1 : u_d ≠ b21_1 := Nat.ne_of_lt (Nat.lt_of_lt_of_le f30.lt gb21_1)
  have ne_u_e_b21_1 : u_e ≠ b21_1 := Nat.ne_of_lt (Nat.lt_of_lt_of_le f31.lt gb21_1)
  have ne_b1_b21_1 : b1 ≠ b21_1 := Nat.ne_of_lt (Nat.lt_of_lt_of_le f22.lt gb21_1)
  have ne_b8_b21_1 : b8 ≠ b21_1 := Nat.ne_of_lt (Nat.lt_of_lt_of_le f32.lt gb21_1)
  have ne_b14_b21_1 : b14 ≠ b21_1 := Nat.ne_of_lt (Nat.lt_of_lt_of_le A14.lt gb21_1)
  have g_b21_2 : n0 ≤ b21_2 := Nat.le_trans zp14 gb21_2
  have sz_b21_2 : h0.size ≤ b21_2 := Nat.le_trans kk14.1 gb21_2
  have ne_a_b21_2 : a ≠ b21_2 := Nat.ne_of_lt (Nat.lt_of_lt_of_le f29.lt gb21_2)
  have ne_u_d_b21_2 : u_d ≠ b21_2 := Nat.ne_of_lt (Nat.lt_of_lt_of_le f30.lt gb21_2)
  have ne_u_e_b21_2 : u_e ≠ b21_2 := Nat.ne_of_lt (Nat.lt_of_lt_of_le f31.lt gb21_2)
  have ne_b1_b21_2 : b1 ≠ b21_2 := Nat.ne_of_lt (Nat.lt_of_lt_of_le f22.lt gb21_2)
  have ne_b8_b21_2 : b8 ≠ b21_2 := Nat.ne_of_lt (Nat.lt_of_lt_of_le f32.lt gb21_2)
  have ne_b14_b21_2 : b14 ≠ b21_2 := Nat.ne_of_lt (Nat.lt_of_lt_of_le A14.lt gb21_2)
  have kk21 : Keep h0 T21.heap [] := kk14.trans K21 (allS (Or.inr sz_b1) all0)
  have zp21 : n0 ≤ T21.heap.size := Nat.le_trans Z0 kk21.1
  refine own_go (fun tgt cont => st21.trans cont) ?_
  show own_Go p e below s (Q_rm12 Z a u_v u_d u_e u_c ds es h0 n0) 7 150 (T21.setTop (mkF m 34 #[.val (.ref a)] [(.ref b1)]))
  refine own_end X21 (v := some (.ref b1)) (fun h => by rw [Bd.returns] at h; cases h) hlk ?_ (by decide) (by decide) (fun fs hl => retOut X21 hx Bd.returns rfl (Or.inr (Or.inr (Or.inr (Or.inr ⟨rfl, rfl, rfl⟩)))) (hb hby d12_34) hl)
  have f33 := (f28.keep K21 (ninS (Ne.symm ne_b1_b8) nin0))
  exact ⟨_, b8, b21_0, b21_1, b21_2, rfl, N21, kk21, sz_b1, ex21_0, fa21_0, fa21_1, fa21_2, fa21_3, fa21_4, f33, ab21_0, ab21_1, ab21_2⟩
def own_bdg_r (p1 : Int32) (ds : List Int32) : Int32 := (ds.getD p1.toNatClampNeg 0)
def Q_rm11 (Z : State) (a : Addr) (p1 : Int32) (u_d : Addr) (ds : List Int32) (h0 : Heap) (n0 : Nat) (v : Option Value) (h : Heap) (L : List Loc) : Prop := v = some (.int (own_bdg_r p1 ds)) ∧ Fr n0 L ∧ h = h0
theorem d11_0 : decode prog_25_method_3_code 0 = .ok (.aload_n 0, 1) := by decide +kernel
theorem d11_1 : decode prog_25_method_3_code 1 = .ok (.getfield 28, 3) := by decide +kernel
theorem d11_4 : decode prog_25_method_3_code 4 = .ok (.iload_n 1, 1) := by decide +kernel
theorem d11_5 : decode prog_25_method_3_code 5 = .ok (.iaload, 1) := by decide +kernel
theorem d11_6 : decode prog_25_method_3_code 6 = .ok (.ireturn, 1) := by decide +kernel
set_option maxRecDepth 65536 in
set_option maxHeartbeats 40000000 in
theorem rm11 (l : Launch) (Z : State) (a0 : Array Value) (hw : ∀ d ∈ tables_1, d.before a0 Z = true) (ws : List Jvm.Cond) (a : Addr) (p1 : Int32) (u_d : Addr) (ds : List Int32) (h0 : Heap) (n0 : Nat) (Z0 : n0 ≤ h0.size) (E_a : Exa Z h0 a "com/example/cyclecut/cyclecut/graph/Graph$Builder") (F_a_degree : Fld Z h0 a "com/example/cyclecut/cyclecut/graph/Graph$Builder" "degree" "[I" (.ref u_d)) (A_u_d : own_IA Z h0 u_d ds) (d1 : ¬ p1 < 0 ∧ p1.toNatClampNeg < ds.length) :
    MetFree l (⟨"com/example/cyclecut/cyclecut/graph/Graph$Builder", "degree", "(I)I"⟩ : MethodName) (head1 (Jvm.Cond.code (⟨"com/example/cyclecut/cyclecut/graph/Graph$Builder", "degree", "(I)I"⟩ : MethodName) prog_25_method_3_code 2 (some .int) :: ws) ({ frames := 0, cells := 0, slots := 0, locals := 0 } : Room)) (fun aa U => aa = #[(.ref a), (.int p1)] ∧ Z.Warmed39 U.vm ∧ U.heap = h0) (fun _ _ _ _ _ => True) (fun _ U o U' => ∃ v L, o = .returned v ∧ Q_rm11 Z a p1 u_d ds h0 n0 v U'.heap L ∧ FrameEnd U o U' L ({ frames := 0, cells := 0, slots := 0, locals := 0 } : Room).cells ({ frames := 0, cells := 0, slots := 0, locals := 0 } : Room).slots) := by
  refine MetFree.of_bodySF (plainFor_of_name own_pn2) hisR ?_
  intro p e s m args below meth c s₁ Bd hml0 hP hK
  obtain ⟨rfl, hZ, hh⟩ := hP
  have hx := Bd.exec
  have hby := Bd.bytes
  have hml : c.maxLocals = 2 := hml0
  have hlk : meth.locks = false := BodyLoose.notSynchronized Bd
  have hown : s.vm.findClass "com/example/cyclecut/cyclecut/graph/Graph$Builder" = some m.cls := findClass_of_methodNamed Bd.named
  have hnm := (name_of_methodNamed Bd.named Bd.method).1
  have X0 : Stand p l e ({ frames := 0, cells := 0, slots := 0, locals := 0 } : Room) s m #[(.ref a), (.int p1)] below meth c s₁ [] 0 0 := Stand.of_body Bd
  have e0 : s₁.heap = h0 := by rw [← hh, Bd.state]; rfl
  have N0 := Fr.nil n0
  show own_Go p e below s (Q_rm11 Z a p1 u_d ds h0 n0) 0 0 (s₁.setTop (entryFrame m #[(.ref a), (.int p1)] 2))
  refine own_go (B := s₁.setTop (mkF m 0 #[.val (.ref a), .val (.int p1)] [])) (fun tgt cont => (XT.entry rfl).trans cont) ?_
  have ne_a_u_d := own_neA E_a (hw _ (List.mem_of_getElem? (i := 2) rfl)) A_u_d.arr
  refine own_go (B := s₁.setTop (mkF m 1 #[.val (.ref a), .val (.int p1)] [(.ref a)])) (fun tgt cont => ?_) ?_
  · refine XS.aloadN X0.here hx rfl (hb hby d11_0) rfl rfl ?_
    exact cont
  obtain ⟨T1, X1, e1, st1⟩ := getF X0 hx hZ hown (host := "") (Or.inl (hw _ (List.mem_of_getElem? (i := 15) rfl))) Via.refl e0 F_a_degree (g := (mkF m 1 #[.val (.ref a), .val (.int p1)] [(.ref a)])) rfl rfl (hb hby d11_1)
  refine own_go (fun tgt cont => st1 tgt cont) ?_
  show own_Go p e below s (Q_rm11 Z a p1 u_d ds h0 n0) 0 0 (T1.setTop (mkF m 4 #[.val (.ref a), .val (.int p1)] [(.ref u_d)]))
  refine own_go (B := T1.setTop (mkF m 6 #[.val (.ref a), .val (.int p1)] [(.int (ds.getD p1.toNatClampNeg 0))])) (fun tgt cont => ?_) ?_
  · refine XS.iloadN X1.here hx rfl (hb hby d11_4) rfl ?_
    refine own_ldIA X1 hx hZ e1 A_u_d (j := p1) d1 (g := (mkF m 5 #[.val (.ref a), .val (.int p1)] [(.int p1), (.ref u_d)])) rfl rfl (hb hby d11_5) ?_
    exact cont
  refine own_end X1 (v := some (.int (ds.getD p1.toNatClampNeg 0))) (fun h => by rw [Bd.returns] at h; cases h) hlk ?_ (by decide) (by decide) (fun fs hl => retI X1 hx Bd.returns (hb hby d11_6) hl)
  exact ⟨(by unfold own_bdg_r; exact rfl), N0, e1⟩
def own_gec_r (es : List Int32) : Int32 := ((Int32.ofNat es.length) / (2 : Int32))
def Q_rm15 (Z : State) (a : Addr) (u_e : Addr) (es : List Int32) (h0 : Heap) (n0 : Nat) (v : Option Value) (h : Heap) (L : List Loc) : Prop := v = some (.int (own_gec_r es)) ∧ Fr n0 L ∧ h = h0
theorem d15_0 : decode prog_24_method_3_code 0 = .ok (.aload_n 0, 1) := by decide +kernel
theorem d15_1 : decode prog_24_method_3_code 1 = .ok (.getfield 13, 3) := by decide +kernel
theorem d15_4 : decode prog_24_method_3_code 4 = .ok (.arraylength, 1) := by decide +kernel
theorem d15_5 : decode prog_24_method_3_code 5 = .ok (.iconst 2, 1) := by decide +kernel
theorem d15_6 : decode prog_24_method_3_code 6 = .ok (.idiv, 1) := by decide +kernel
theorem d15_7 : decode prog_24_method_3_code 7 = .ok (.ireturn, 1) := by decide +kernel
set_option maxRecDepth 65536 in
set_option maxHeartbeats 40000000 in
theorem rm15 (l : Launch) (Z : State) (a0 : Array Value) (hw : ∀ d ∈ tables_1, d.before a0 Z = true) (ws : List Jvm.Cond) (a : Addr) (u_e : Addr) (es : List Int32) (h0 : Heap) (n0 : Nat) (Z0 : n0 ≤ h0.size) (E_a : Exa Z h0 a "com/example/cyclecut/cyclecut/graph/Graph") (F_a_ends : Fld Z h0 a "com/example/cyclecut/cyclecut/graph/Graph" "ends" "[I" (.ref u_e)) (A_u_e : own_IA Z h0 u_e es)  :
    MetFree l (⟨"com/example/cyclecut/cyclecut/graph/Graph", "edgeCount", "()I"⟩ : MethodName) (head1 (Jvm.Cond.code (⟨"com/example/cyclecut/cyclecut/graph/Graph", "edgeCount", "()I"⟩ : MethodName) prog_24_method_3_code 1 (some .int) :: ws) ({ frames := 0, cells := 0, slots := 0, locals := 0 } : Room)) (fun aa U => aa = #[(.ref a)] ∧ Z.Warmed39 U.vm ∧ U.heap = h0) (fun _ _ _ _ _ => True) (fun _ U o U' => ∃ v L, o = .returned v ∧ Q_rm15 Z a u_e es h0 n0 v U'.heap L ∧ FrameEnd U o U' L ({ frames := 0, cells := 0, slots := 0, locals := 0 } : Room).cells ({ frames := 0, cells := 0, slots := 0, locals := 0 } : Room).slots) := by
  refine MetFree.of_bodySF (plainFor_of_name own_pn4) hisR ?_
  intro p e s m args below meth c s₁ Bd hml0 hP hK
  obtain ⟨rfl, hZ, hh⟩ := hP
  have hx := Bd.exec
  have hby := Bd.bytes
  have hml : c.maxLocals = 1 := hml0
  have hlk : meth.locks = false := BodyLoose.notSynchronized Bd
  have hown : s.vm.findClass "com/example/cyclecut/cyclecut/graph/Graph" = some m.cls := findClass_of_methodNamed Bd.named
  have hnm := (name_of_methodNamed Bd.named Bd.method).1
  have X0 : Stand p l e ({ frames := 0, cells := 0, slots := 0, locals := 0 } : Room) s m #[(.ref a)] below meth c s₁ [] 0 0 := Stand.of_body Bd
  have e0 : s₁.heap = h0 := by rw [← hh, Bd.state]; rfl
  have N0 := Fr.nil n0
  show own_Go p e below s (Q_rm15 Z a u_e es h0 n0) 0 0 (s₁.setTop (entryFrame m #[(.ref a)] 1))
  refine own_go (B := s₁.setTop (mkF m 0 #[.val (.ref a)] [])) (fun tgt cont => (XT.entry rfl).trans cont) ?_
  have ne_a_u_e := own_neA E_a (hw _ (List.mem_of_getElem? (i := 69) rfl)) A_u_e.arr
  refine own_go (B := s₁.setTop (mkF m 1 #[.val (.ref a)] [(.ref a)])) (fun tgt cont => ?_) ?_
  · refine XS.aloadN X0.here hx rfl (hb hby d15_0) rfl rfl ?_
    exact cont
  obtain ⟨T1, X1, e1, st1⟩ := getF X0 hx hZ hown (host := "") (Or.inl (hw _ (List.mem_of_getElem? (i := 86) rfl))) Via.refl e0 F_a_ends (g := (mkF m 1 #[.val (.ref a)] [(.ref a)])) rfl rfl (hb hby d15_1)
  refine own_go (fun tgt cont => st1 tgt cont) ?_
  show own_Go p e below s (Q_rm15 Z a u_e es h0 n0) 0 0 (T1.setTop (mkF m 4 #[.val (.ref a)] [(.ref u_e)]))
  refine own_go (B := T1.setTop (mkF m 7 #[.val (.ref a)] [(.int ((Int32.ofNat es.length) / (2 : Int32)))])) (fun tgt cont => ?_) ?_
  · refine own_lenIA X1 hx hZ e1 A_u_e (g := (mkF m 4 #[.val (.ref a)] [(.ref u_e)])) rfl rfl (hb hby d15_4) ?_
    refine XT.iconstV X1.here hx rfl (2 : Int32) (hb hby d15_5) rfl ?_
    refine XS.idiv X1.here hx rfl (hb hby d15_6) rfl (by decide) ?_
    exact cont
  refine own_end X1 (v := some (.int ((Int32.ofNat es.length) / (2 : Int32)))) (fun h => by rw [Bd.returns] at h; cases h) hlk ?_ (by decide) (by decide) (fun fs hl => retI X1 hx Bd.returns (hb hby d15_7) hl)
  exact ⟨(by unfold own_gec_r; exact rfl), N0, e1⟩
def own_gfir_r (p1 : Int32) (es : List Int32) : Int32 := (es.getD ((2 : Int32) * (own_cx p1 (own_gec_r es))).toNatClampNeg 0)
def Q_rm14 (Z : State) (a : Addr) (p1 : Int32) (u_e : Addr) (es : List Int32) (h0 : Heap) (n0 : Nat) (v : Option Value) (h : Heap) (L : List Loc) : Prop := v = some (.int (own_gfir_r p1 es)) ∧ Fr n0 L ∧ h = h0
theorem own_pd5 : parseMethodDescriptor "()I" = some ⟨[], some .int⟩ := by decide +kernel
theorem d14_0 : decode prog_24_method_4_code 0 = .ok (.aload_n 0, 1) := by decide +kernel
theorem d14_1 : decode prog_24_method_4_code 1 = .ok (.getfield 13, 3) := by decide +kernel
theorem d14_4 : decode prog_24_method_4_code 4 = .ok (.iconst 2, 1) := by decide +kernel
theorem d14_5 : decode prog_24_method_4_code 5 = .ok (.iload_n 1, 1) := by decide +kernel
theorem d14_6 : decode prog_24_method_4_code 6 = .ok (.aload_n 0, 1) := by decide +kernel
theorem d14_7 : decode prog_24_method_4_code 7 = .ok (.invokevirtual 32, 3) := by decide +kernel
theorem d14_10 : decode prog_24_method_4_code 10 = .ok (.invokestatic 36, 3) := by decide +kernel
theorem d14_13 : decode prog_24_method_4_code 13 = .ok (.imul, 1) := by decide +kernel
theorem d14_14 : decode prog_24_method_4_code 14 = .ok (.iaload, 1) := by decide +kernel
theorem d14_15 : decode prog_24_method_4_code 15 = .ok (.ireturn, 1) := by decide +kernel
set_option maxRecDepth 65536 in
set_option maxHeartbeats 40000000 in
theorem rm14 (l : Launch) (Z : State) (a0 : Array Value) (hw : ∀ d ∈ tables_1, d.before a0 Z = true) (ws : List Jvm.Cond) (a : Addr) (p1 : Int32) (u_e : Addr) (es : List Int32) (h0 : Heap) (n0 : Nat) (Z0 : n0 ≤ h0.size) (E_a : Exa Z h0 a "com/example/cyclecut/cyclecut/graph/Graph") (F_a_ends : Fld Z h0 a "com/example/cyclecut/cyclecut/graph/Graph" "ends" "[I" (.ref u_e)) (A_u_e : own_IA Z h0 u_e es) (q1 : ¬ p1 < 0) (q2 : p1 < own_gec_r es) (q3 : ¬ ((2 : Int32) * (own_cx p1 (own_gec_r es))) < 0 ∧ ((2 : Int32) * (own_cx p1 (own_gec_r es))).toNatClampNeg < es.length) :
    MetFree l (⟨"com/example/cyclecut/cyclecut/graph/Graph", "firstEnd", "(I)I"⟩ : MethodName) (head1 (Jvm.Cond.code (⟨"com/example/cyclecut/cyclecut/graph/Graph", "firstEnd", "(I)I"⟩ : MethodName) prog_24_method_4_code 2 (some .int) :: ws) ({ frames := 2, cells := 0, slots := 0, locals := 29 } : Room)) (fun aa U => aa = #[(.ref a), (.int p1)] ∧ Z.Warmed39 U.vm ∧ U.heap = h0) (fun _ _ _ _ _ => True) (fun _ U o U' => ∃ v L, o = .returned v ∧ Q_rm14 Z a p1 u_e es h0 n0 v U'.heap L ∧ FrameEnd U o U' L ({ frames := 2, cells := 0, slots := 0, locals := 29 } : Room).cells ({ frames := 2, cells := 0, slots := 0, locals := 29 } : Room).slots) := by
  refine MetFree.of_bodySF (plainFor_of_name own_pn4) hisR ?_
  intro p e s m args below meth c s₁ Bd hml0 hP hK
  obtain ⟨rfl, hZ, hh⟩ := hP
  have hx := Bd.exec
  have hby := Bd.bytes
  have hml : c.maxLocals = 2 := hml0
  have hlk : meth.locks = false := BodyLoose.notSynchronized Bd
  have hown : s.vm.findClass "com/example/cyclecut/cyclecut/graph/Graph" = some m.cls := findClass_of_methodNamed Bd.named
  have hnm := (name_of_methodNamed Bd.named Bd.method).1
  have X0 : Stand p l e ({ frames := 2, cells := 0, slots := 0, locals := 29 } : Room) s m #[(.ref a), (.int p1)] below meth c s₁ [] 0 0 := Stand.of_body Bd
  have e0 : s₁.heap = h0 := by rw [← hh, Bd.state]; rfl
  have N0 := Fr.nil n0
  show own_Go p e below s (Q_rm14 Z a p1 u_e es h0 n0) 0 0 (s₁.setTop (entryFrame m #[(.ref a), (.int p1)] 2))
  refine own_go (B := s₁.setTop (mkF m 0 #[.val (.ref a), .val (.int p1)] [])) (fun tgt cont => (XT.entry rfl).trans cont) ?_
  have ne_a_u_e := own_neA E_a (hw _ (List.mem_of_getElem? (i := 69) rfl)) A_u_e.arr
  refine own_go (B := s₁.setTop (mkF m 1 #[.val (.ref a), .val (.int p1)] [(.ref a)])) (fun tgt cont => ?_) ?_
  · refine XS.aloadN X0.here hx rfl (hb hby d14_0) rfl rfl ?_
    exact cont
  obtain ⟨T1, X1, e1, st1⟩ := getF X0 hx hZ hown (host := "") (Or.inl (hw _ (List.mem_of_getElem? (i := 86) rfl))) Via.refl e0 F_a_ends (g := (mkF m 1 #[.val (.ref a), .val (.int p1)] [(.ref a)])) rfl rfl (hb hby d14_1)
  refine own_go (fun tgt cont => st1 tgt cont) ?_
  show own_Go p e below s (Q_rm14 Z a p1 u_e es h0 n0) 0 0 (T1.setTop (mkF m 4 #[.val (.ref a), .val (.int p1)] [(.ref u_e)]))
  refine own_go (B := T1.setTop (mkF m 7 #[.val (.ref a), .val (.int p1)] [(.ref a), (.int p1), (.int (2 : Int32)), (.ref u_e)])) (fun tgt cont => ?_) ?_
  · refine XT.iconstV X1.here hx rfl (2 : Int32) (hb hby d14_4) rfl ?_
    refine XS.iloadN X1.here hx rfl (hb hby d14_5) rfl ?_
    refine XS.aloadN X1.here hx rfl (hb hby d14_6) rfl rfl ?_
    exact cont
  -- pc 7: Graph.edgeCount
  obtain ⟨cq2, kq2, qa2, qb2, qc2⟩ := isOf hZ e1 E_a
  obtain ⟨_, _, ⟨T2, L2, k2, n2⟩, -, X2, ⟨Lc2, hQ2, l2, y2, z2⟩, st2⟩ := X1.virtualBack hx (y := (⟨"com/example/cyclecut/cyclecut/graph/Graph", "edgeCount", "()I"⟩ : MethodName)) (z := (⟨"com/example/cyclecut/cyclecut/graph/Graph", "edgeCount", "()I"⟩ : MethodName)) hown (mvT hZ (hw _ (List.mem_of_getElem? (i := 100) rfl))) (mvT hZ (hw _ (List.mem_of_getElem? (i := 101) rfl))) (notFace_of_selects (args := #[]) (mvT hZ (hw _ (List.mem_of_getElem? (i := 103) rfl)))) (mvT hZ (hw _ (List.mem_of_getElem? (i := 103) rfl))) (mvT hZ (hw _ (List.mem_of_getElem? (i := 102) rfl))) (by decide) (backOf (W := 3) (rm15 l Z a0 hw [] a u_e es h0 n0 Z0 E_a F_a_ends A_u_e) hZ (hw _ (List.mem_of_getElem? (i := 104) rfl)) (hw _ (List.mem_of_getElem? (i := 70) rfl)) (by decide) (by decide)) qa2 qc2 (g := (mkF m 7 #[.val (.ref a), .val (.int p1)] [(.ref a), (.int p1), (.int (2 : Int32)), (.ref u_e)])) rfl (by rw [hml]; rfl) (Steps.refl _) (argsL := []) (rest := [(.int p1), (.int (2 : Int32)), (.ref u_e)]) (lenOf own_pd5 rfl) rfl (by show 2 * 0 + _ ≤ _; exact Nat.le_of_eq rfl) (hb hby d14_7) (fun _ _ => ⟨rfl, e1, (by decide : 0 + 0 ≤ _), (by decide : 0 + 0 ≤ _)⟩)
  dsimp only [Pt.U, Pt.locs, Pt.cells, Pt.slots] at X2 l2 y2 z2 st2 hQ2
  subst y2 z2
  obtain ⟨rfl, N2q, e2⟩ := hQ2
  have N2 : Fr n0 L2 := by rw [l2]; exact Fr.app N0 N2q
  refine own_go (fun tgt cont => st2.trans cont) ?_
  show own_Go p e below s (Q_rm14 Z a p1 u_e es h0 n0) 0 0 (T2.setTop (mkF m 10 #[.val (.ref a), .val (.int p1)] [(.int (own_gec_r es)), (.int p1), (.int (2 : Int32)), (.ref u_e)]))
  -- pc 10: Objects.checkIndex
  obtain ⟨_, _, ⟨T3, L3, k3, n3⟩, -, X3, ⟨Lc3, hQ3, l3, y3, z3⟩, st3⟩ := Jvm.LawKit.callS X2 hx (y := (⟨"java/util/Objects", "checkIndex", "(II)I"⟩ : MethodName)) hown (mvT hZ (hw _ (List.mem_of_getElem? (i := 105) rfl))) (mvT hZ (hw _ (List.mem_of_getElem? (i := 28) rfl))) (mvT hZ (hw _ (List.mem_of_getElem? (i := 29) rfl))) (mvT hZ (hw _ (List.mem_of_getElem? (i := 30) rfl))) (by decide) (backOf (W := 2) (rm5 l Z a0 hw [] p1 (own_gec_r es) h0 n0 Z0 q1 q2) hZ (hw _ (List.mem_of_getElem? (i := 30) rfl)) (hw _ (List.mem_of_getElem? (i := 29) rfl)) (by decide) (by decide)) (g := (mkF m 10 #[.val (.ref a), .val (.int p1)] [(.int (own_gec_r es)), (.int p1), (.int (2 : Int32)), (.ref u_e)])) rfl (by rw [hml]; rfl) (argsL := [(.int p1), (.int (own_gec_r es))]) (rest := [(.int (2 : Int32)), (.ref u_e)]) (lenOf own_pd1 rfl) rfl (by show 2 * 0 + _ ≤ _; exact Nat.le_of_eq rfl) (hb hby d14_10) (fun _ _ => ⟨rfl, e2, (by decide : 0 + 0 + 0 ≤ _), (by decide : 0 + 0 + 0 ≤ _)⟩)
  dsimp only [Pt.U, Pt.locs, Pt.cells, Pt.slots] at X3 l3 y3 z3 st3 hQ3
  subst y3 z3
  obtain ⟨rfl, N3q, e3⟩ := hQ3
  have N3 : Fr n0 L3 := by rw [l3]; exact Fr.app N2 N3q
  refine own_go (fun tgt cont => st3 tgt cont) ?_
  show own_Go p e below s (Q_rm14 Z a p1 u_e es h0 n0) 0 0 (T3.setTop (mkF m 13 #[.val (.ref a), .val (.int p1)] [(.int (own_cx p1 (own_gec_r es))), (.int (2 : Int32)), (.ref u_e)]))
  refine own_go (B := T3.setTop (mkF m 15 #[.val (.ref a), .val (.int p1)] [(.int (es.getD ((2 : Int32) * (own_cx p1 (own_gec_r es))).toNatClampNeg 0))])) (fun tgt cont => ?_) ?_
  · refine XS.imul X3.here hx rfl (hb hby d14_13) rfl ?_
    refine own_ldIA X3 hx hZ e3 A_u_e (j := ((2 : Int32) * (own_cx p1 (own_gec_r es)))) q3 (g := (mkF m 14 #[.val (.ref a), .val (.int p1)] [(.int ((2 : Int32) * (own_cx p1 (own_gec_r es)))), (.ref u_e)])) rfl rfl (hb hby d14_14) ?_
    exact cont
  refine own_end X3 (v := some (.int (es.getD ((2 : Int32) * (own_cx p1 (own_gec_r es))).toNatClampNeg 0))) (fun h => by rw [Bd.returns] at h; cases h) hlk ?_ (by decide) (by decide) (fun fs hl => retI X3 hx Bd.returns (hb hby d14_15) hl)
  exact ⟨(by unfold own_gfir_r; exact rfl), N3, e3⟩
def own_gsec_r (p1 : Int32) (es : List Int32) : Int32 := (es.getD (((2 : Int32) * (own_cx p1 (own_gec_r es))) + (1 : Int32)).toNatClampNeg 0)
def Q_rm16 (Z : State) (a : Addr) (p1 : Int32) (u_e : Addr) (es : List Int32) (h0 : Heap) (n0 : Nat) (v : Option Value) (h : Heap) (L : List Loc) : Prop := v = some (.int (own_gsec_r p1 es)) ∧ Fr n0 L ∧ h = h0
theorem d16_0 : decode prog_24_method_5_code 0 = .ok (.aload_n 0, 1) := by decide +kernel
theorem d16_1 : decode prog_24_method_5_code 1 = .ok (.getfield 13, 3) := by decide +kernel
theorem d16_4 : decode prog_24_method_5_code 4 = .ok (.iconst 2, 1) := by decide +kernel
theorem d16_5 : decode prog_24_method_5_code 5 = .ok (.iload_n 1, 1) := by decide +kernel
theorem d16_6 : decode prog_24_method_5_code 6 = .ok (.aload_n 0, 1) := by decide +kernel
theorem d16_7 : decode prog_24_method_5_code 7 = .ok (.invokevirtual 32, 3) := by decide +kernel
theorem d16_10 : decode prog_24_method_5_code 10 = .ok (.invokestatic 36, 3) := by decide +kernel
theorem d16_13 : decode prog_24_method_5_code 13 = .ok (.imul, 1) := by decide +kernel
theorem d16_14 : decode prog_24_method_5_code 14 = .ok (.iconst 1, 1) := by decide +kernel
theorem d16_15 : decode prog_24_method_5_code 15 = .ok (.iadd, 1) := by decide +kernel
theorem d16_16 : decode prog_24_method_5_code 16 = .ok (.iaload, 1) := by decide +kernel
theorem d16_17 : decode prog_24_method_5_code 17 = .ok (.ireturn, 1) := by decide +kernel
set_option maxRecDepth 65536 in
set_option maxHeartbeats 40000000 in
theorem rm16 (l : Launch) (Z : State) (a0 : Array Value) (hw : ∀ d ∈ tables_1, d.before a0 Z = true) (ws : List Jvm.Cond) (a : Addr) (p1 : Int32) (u_e : Addr) (es : List Int32) (h0 : Heap) (n0 : Nat) (Z0 : n0 ≤ h0.size) (E_a : Exa Z h0 a "com/example/cyclecut/cyclecut/graph/Graph") (F_a_ends : Fld Z h0 a "com/example/cyclecut/cyclecut/graph/Graph" "ends" "[I" (.ref u_e)) (A_u_e : own_IA Z h0 u_e es) (q1 : ¬ p1 < 0) (q2 : p1 < own_gec_r es) (q3 : ¬ (((2 : Int32) * (own_cx p1 (own_gec_r es))) + (1 : Int32)) < 0 ∧ (((2 : Int32) * (own_cx p1 (own_gec_r es))) + (1 : Int32)).toNatClampNeg < es.length) :
    MetFree l (⟨"com/example/cyclecut/cyclecut/graph/Graph", "secondEnd", "(I)I"⟩ : MethodName) (head1 (Jvm.Cond.code (⟨"com/example/cyclecut/cyclecut/graph/Graph", "secondEnd", "(I)I"⟩ : MethodName) prog_24_method_5_code 2 (some .int) :: ws) ({ frames := 2, cells := 0, slots := 0, locals := 29 } : Room)) (fun aa U => aa = #[(.ref a), (.int p1)] ∧ Z.Warmed39 U.vm ∧ U.heap = h0) (fun _ _ _ _ _ => True) (fun _ U o U' => ∃ v L, o = .returned v ∧ Q_rm16 Z a p1 u_e es h0 n0 v U'.heap L ∧ FrameEnd U o U' L ({ frames := 2, cells := 0, slots := 0, locals := 29 } : Room).cells ({ frames := 2, cells := 0, slots := 0, locals := 29 } : Room).slots) := by
  refine MetFree.of_bodySF (plainFor_of_name own_pn4) hisR ?_
  intro p e s m args below meth c s₁ Bd hml0 hP hK
  obtain ⟨rfl, hZ, hh⟩ := hP
  have hx := Bd.exec
  have hby := Bd.bytes
  have hml : c.maxLocals = 2 := hml0
  have hlk : meth.locks = false := BodyLoose.notSynchronized Bd
  have hown : s.vm.findClass "com/example/cyclecut/cyclecut/graph/Graph" = some m.cls := findClass_of_methodNamed Bd.named
  have hnm := (name_of_methodNamed Bd.named Bd.method).1
  have X0 : Stand p l e ({ frames := 2, cells := 0, slots := 0, locals := 29 } : Room) s m #[(.ref a), (.int p1)] below meth c s₁ [] 0 0 := Stand.of_body Bd
  have e0 : s₁.heap = h0 := by rw [← hh, Bd.state]; rfl
  have N0 := Fr.nil n0
  show own_Go p e below s (Q_rm16 Z a p1 u_e es h0 n0) 0 0 (s₁.setTop (entryFrame m #[(.ref a), (.int p1)] 2))
  refine own_go (B := s₁.setTop (mkF m 0 #[.val (.ref a), .val (.int p1)] [])) (fun tgt cont => (XT.entry rfl).trans cont) ?_
  have ne_a_u_e := own_neA E_a (hw _ (List.mem_of_getElem? (i := 69) rfl)) A_u_e.arr
  refine own_go (B := s₁.setTop (mkF m 1 #[.val (.ref a), .val (.int p1)] [(.ref a)])) (fun tgt cont => ?_) ?_
  · refine XS.aloadN X0.here hx rfl (hb hby d16_0) rfl rfl ?_
    exact cont
  obtain ⟨T1, X1, e1, st1⟩ := getF X0 hx hZ hown (host := "") (Or.inl (hw _ (List.mem_of_getElem? (i := 86) rfl))) Via.refl e0 F_a_ends (g := (mkF m 1 #[.val (.ref a), .val (.int p1)] [(.ref a)])) rfl rfl (hb hby d16_1)
  refine own_go (fun tgt cont => st1 tgt cont) ?_
  show own_Go p e below s (Q_rm16 Z a p1 u_e es h0 n0) 0 0 (T1.setTop (mkF m 4 #[.val (.ref a), .val (.int p1)] [(.ref u_e)]))
  refine own_go (B := T1.setTop (mkF m 7 #[.val (.ref a), .val (.int p1)] [(.ref a), (.int p1), (.int (2 : Int32)), (.ref u_e)])) (fun tgt cont => ?_) ?_
  · refine XT.iconstV X1.here hx rfl (2 : Int32) (hb hby d16_4) rfl ?_
    refine XS.iloadN X1.here hx rfl (hb hby d16_5) rfl ?_
    refine XS.aloadN X1.here hx rfl (hb hby d16_6) rfl rfl ?_
    exact cont
  -- pc 7: Graph.edgeCount
  obtain ⟨cq2, kq2, qa2, qb2, qc2⟩ := isOf hZ e1 E_a
  obtain ⟨_, _, ⟨T2, L2, k2, n2⟩, -, X2, ⟨Lc2, hQ2, l2, y2, z2⟩, st2⟩ := X1.virtualBack hx (y := (⟨"com/example/cyclecut/cyclecut/graph/Graph", "edgeCount", "()I"⟩ : MethodName)) (z := (⟨"com/example/cyclecut/cyclecut/graph/Graph", "edgeCount", "()I"⟩ : MethodName)) hown (mvT hZ (hw _ (List.mem_of_getElem? (i := 100) rfl))) (mvT hZ (hw _ (List.mem_of_getElem? (i := 101) rfl))) (notFace_of_selects (args := #[]) (mvT hZ (hw _ (List.mem_of_getElem? (i := 103) rfl)))) (mvT hZ (hw _ (List.mem_of_getElem? (i := 103) rfl))) (mvT hZ (hw _ (List.mem_of_getElem? (i := 102) rfl))) (by decide) (backOf (W := 3) (rm15 l Z a0 hw [] a u_e es h0 n0 Z0 E_a F_a_ends A_u_e) hZ (hw _ (List.mem_of_getElem? (i := 104) rfl)) (hw _ (List.mem_of_getElem? (i := 70) rfl)) (by decide) (by decide)) qa2 qc2 (g := (mkF m 7 #[.val (.ref a), .val (.int p1)] [(.ref a), (.int p1), (.int (2 : Int32)), (.ref u_e)])) rfl (by rw [hml]; rfl) (Steps.refl _) (argsL := []) (rest := [(.int p1), (.int (2 : Int32)), (.ref u_e)]) (lenOf own_pd5 rfl) rfl (by show 2 * 0 + _ ≤ _; exact Nat.le_of_eq rfl) (hb hby d16_7) (fun _ _ => ⟨rfl, e1, (by decide : 0 + 0 ≤ _), (by decide : 0 + 0 ≤ _)⟩)
  dsimp only [Pt.U, Pt.locs, Pt.cells, Pt.slots] at X2 l2 y2 z2 st2 hQ2
  subst y2 z2
  obtain ⟨rfl, N2q, e2⟩ := hQ2
  have N2 : Fr n0 L2 := by rw [l2]; exact Fr.app N0 N2q
  refine own_go (fun tgt cont => st2.trans cont) ?_
  show own_Go p e below s (Q_rm16 Z a p1 u_e es h0 n0) 0 0 (T2.setTop (mkF m 10 #[.val (.ref a), .val (.int p1)] [(.int (own_gec_r es)), (.int p1), (.int (2 : Int32)), (.ref u_e)]))
  -- pc 10: Objects.checkIndex
  obtain ⟨_, _, ⟨T3, L3, k3, n3⟩, -, X3, ⟨Lc3, hQ3, l3, y3, z3⟩, st3⟩ := Jvm.LawKit.callS X2 hx (y := (⟨"java/util/Objects", "checkIndex", "(II)I"⟩ : MethodName)) hown (mvT hZ (hw _ (List.mem_of_getElem? (i := 105) rfl))) (mvT hZ (hw _ (List.mem_of_getElem? (i := 28) rfl))) (mvT hZ (hw _ (List.mem_of_getElem? (i := 29) rfl))) (mvT hZ (hw _ (List.mem_of_getElem? (i := 30) rfl))) (by decide) (backOf (W := 2) (rm5 l Z a0 hw [] p1 (own_gec_r es) h0 n0 Z0 q1 q2) hZ (hw _ (List.mem_of_getElem? (i := 30) rfl)) (hw _ (List.mem_of_getElem? (i := 29) rfl)) (by decide) (by decide)) (g := (mkF m 10 #[.val (.ref a), .val (.int p1)] [(.int (own_gec_r es)), (.int p1), (.int (2 : Int32)), (.ref u_e)])) rfl (by rw [hml]; rfl) (argsL := [(.int p1), (.int (own_gec_r es))]) (rest := [(.int (2 : Int32)), (.ref u_e)]) (lenOf own_pd1 rfl) rfl (by show 2 * 0 + _ ≤ _; exact Nat.le_of_eq rfl) (hb hby d16_10) (fun _ _ => ⟨rfl, e2, (by decide : 0 + 0 + 0 ≤ _), (by decide : 0 + 0 + 0 ≤ _)⟩)
  dsimp only [Pt.U, Pt.locs, Pt.cells, Pt.slots] at X3 l3 y3 z3 st3 hQ3
  subst y3 z3
  obtain ⟨rfl, N3q, e3⟩ := hQ3
  have N3 : Fr n0 L3 := by rw [l3]; exact Fr.app N2 N3q
  refine own_go (fun tgt cont => st3 tgt cont) ?_
  show own_Go p e below s (Q_rm16 Z a p1 u_e es h0 n0) 0 0 (T3.setTop (mkF m 13 #[.val (.ref a), .val (.int p1)] [(.int (own_cx p1 (own_gec_r es))), (.int (2 : Int32)), (.ref u_e)]))
  refine own_go (B := T3.setTop (mkF m 17 #[.val (.ref a), .val (.int p1)] [(.int (es.getD (((2 : Int32) * (own_cx p1 (own_gec_r es))) + (1 : Int32)).toNatClampNeg 0))])) (fun tgt cont => ?_) ?_
  · refine XS.imul X3.here hx rfl (hb hby d16_13) rfl ?_
    refine XT.iconstV X3.here hx rfl (1 : Int32) (hb hby d16_14) rfl ?_
    refine XS.iadd X3.here hx rfl (hb hby d16_15) rfl ?_
    refine own_ldIA X3 hx hZ e3 A_u_e (j := (((2 : Int32) * (own_cx p1 (own_gec_r es))) + (1 : Int32))) q3 (g := (mkF m 16 #[.val (.ref a), .val (.int p1)] [(.int (((2 : Int32) * (own_cx p1 (own_gec_r es))) + (1 : Int32))), (.ref u_e)])) rfl rfl (hb hby d16_16) ?_
    exact cont
  refine own_end X3 (v := some (.int (es.getD (((2 : Int32) * (own_cx p1 (own_gec_r es))) + (1 : Int32)).toNatClampNeg 0))) (fun h => by rw [Bd.returns] at h; cases h) hlk ?_ (by decide) (by decide) (fun fs hl => retI X3 hx Bd.returns (hb hby d16_17) hl)
  exact ⟨(by unfold own_gsec_r; exact rfl), N3, e3⟩
def own_end_ (p1 : Int64) (p2 : Int32) (p3 : Int32) : Int32 := (((((p1.toUInt64 >>> (((3 : Int32) * p2) &&& 0x3f).toInt64.toUInt64).toInt64) &&& (7 : Int64)).toInt32) % p3)
def Q_rm3 (Z : State) (p1 : Int64) (p2 : Int32) (p3 : Int32) (h0 : Heap) (n0 : Nat) (v : Option Value) (h : Heap) (L : List Loc) : Prop := v = some (.int (own_end_ p1 p2 p3)) ∧ Fr n0 L ∧ h = h0
theorem own_pn5 : plainName "com/example/cyclecut/cyclecut/graph/BuilderAddEdgePinLaw" = true := by first | (simp [plainName, overriddenIn]; done) | decide +kernel
theorem d3_0 : decode method_3_code 0 = .ok (.lload_n 0, 1) := by decide +kernel
theorem d3_1 : decode method_3_code 1 = .ok (.iconst 3, 1) := by decide +kernel
theorem d3_2 : decode method_3_code 2 = .ok (.iload_n 2, 1) := by decide +kernel
theorem d3_3 : decode method_3_code 3 = .ok (.imul, 1) := by decide +kernel
theorem d3_4 : decode method_3_code 4 = .ok (.lushr, 1) := by decide +kernel
theorem d3_5 : decode method_3_code 5 = .ok (.ldc2_w 43, 3) := by decide +kernel
theorem d3_8 : decode method_3_code 8 = .ok (.land, 1) := by decide +kernel
theorem d3_9 : decode method_3_code 9 = .ok (.l2i, 1) := by decide +kernel
theorem d3_10 : decode method_3_code 10 = .ok (.istore 4, 2) := by decide +kernel
theorem d3_12 : decode method_3_code 12 = .ok (.iload 4, 2) := by decide +kernel
theorem d3_14 : decode method_3_code 14 = .ok (.iload_n 3, 1) := by decide +kernel
theorem d3_15 : decode method_3_code 15 = .ok (.irem, 1) := by decide +kernel
theorem d3_16 : decode method_3_code 16 = .ok (.ireturn, 1) := by decide +kernel
set_option maxRecDepth 65536 in
set_option maxHeartbeats 40000000 in
theorem rm3 (l : Launch) (Z : State) (a0 : Array Value) (hw : ∀ d ∈ tables_1, d.before a0 Z = true) (ws : List Jvm.Cond) (p1 : Int64) (p2 : Int32) (p3 : Int32) (h0 : Heap) (n0 : Nat) (Z0 : n0 ≤ h0.size) (hnz : p3 ≠ 0) :
    MetFree l (⟨"com/example/cyclecut/cyclecut/graph/BuilderAddEdgePinLaw", "end", "(JII)I"⟩ : MethodName) (head1 (Jvm.Cond.code (⟨"com/example/cyclecut/cyclecut/graph/BuilderAddEdgePinLaw", "end", "(JII)I"⟩ : MethodName) method_3_code 5 (some .int) :: ws) ({ frames := 0, cells := 0, slots := 0, locals := 0 } : Room)) (fun aa U => aa = #[(.long p1), (.int p2), (.int p3)] ∧ Z.Warmed39 U.vm ∧ U.heap = h0) (fun _ _ _ _ _ => True) (fun _ U o U' => ∃ v L, o = .returned v ∧ Q_rm3 Z p1 p2 p3 h0 n0 v U'.heap L ∧ FrameEnd U o U' L ({ frames := 0, cells := 0, slots := 0, locals := 0 } : Room).cells ({ frames := 0, cells := 0, slots := 0, locals := 0 } : Room).slots) := by
  refine MetFree.of_bodySF (plainFor_of_name own_pn5) hisR ?_
  intro p e s m args below meth c s₁ Bd hml0 hP hK
  obtain ⟨rfl, hZ, hh⟩ := hP
  have hx := Bd.exec
  have hby := Bd.bytes
  have hml : c.maxLocals = 5 := hml0
  have hlk : meth.locks = false := BodyLoose.notSynchronized Bd
  have hown : s.vm.findClass "com/example/cyclecut/cyclecut/graph/BuilderAddEdgePinLaw" = some m.cls := findClass_of_methodNamed Bd.named
  have hnm := (name_of_methodNamed Bd.named Bd.method).1
  have X0 : Stand p l e ({ frames := 0, cells := 0, slots := 0, locals := 0 } : Room) s m #[(.long p1), (.int p2), (.int p3)] below meth c s₁ [] 0 0 := Stand.of_body Bd
  have e0 : s₁.heap = h0 := by rw [← hh, Bd.state]; rfl
  have N0 := Fr.nil n0
  show own_Go p e below s (Q_rm3 Z p1 p2 p3 h0 n0) 0 0 (s₁.setTop (entryFrame m #[(.long p1), (.int p2), (.int p3)] 5))
  refine own_go (B := s₁.setTop (mkF m 0 #[.val (.long p1), .second, .val (.int p2), .val (.int p3), .unset] [])) (fun tgt cont => (XT.entry rfl).trans cont) ?_
  refine own_go (B := s₁.setTop (mkF m 14 #[.val (.long p1), .second, .val (.int p2), .val (.int p3), .val (.int ((((p1.toUInt64 >>> (((3 : Int32) * p2) &&& 0x3f).toInt64.toUInt64).toInt64) &&& (7 : Int64)).toInt32))] [(.int ((((p1.toUInt64 >>> (((3 : Int32) * p2) &&& 0x3f).toInt64.toUInt64).toInt64) &&& (7 : Int64)).toInt32))])) (fun tgt cont => ?_) ?_
  · refine XS.lloadN X0.here hx rfl (hb hby d3_0) rfl ?_
    refine XT.iconstV X0.here hx rfl (3 : Int32) (hb hby d3_1) rfl ?_
    refine XS.iloadN X0.here hx rfl (hb hby d3_2) rfl ?_
    refine XS.imul X0.here hx rfl (hb hby d3_3) rfl ?_
    refine XS.lushr X0.here hx rfl (hb hby d3_4) rfl ?_
    refine Stand.ldc2J X0 hx hown (mvT hZ (hw _ (List.mem_of_getElem? (i := 21) rfl))) rfl (hb hby d3_5) ?_
    refine XS.land X0.here hx rfl (hb hby d3_8) rfl ?_
    refine XS.l2i X0.here hx rfl (hb hby d3_9) rfl ?_
    refine XS.istore X0.here hx rfl (hb hby d3_10) rfl (l' := #[.val (.long p1), .second, .val (.int p2), .val (.int p3), .val (.int ((((p1.toUInt64 >>> (((3 : Int32) * p2) &&& 0x3f).toInt64.toUInt64).toInt64) &&& (7 : Int64)).toInt32))]) rfl ?_
    refine XS.iload X0.here hx rfl (hb hby d3_12) rfl ?_
    exact cont
  refine own_go (B := s₁.setTop (mkF m 16 #[.val (.long p1), .second, .val (.int p2), .val (.int p3), .val (.int ((((p1.toUInt64 >>> (((3 : Int32) * p2) &&& 0x3f).toInt64.toUInt64).toInt64) &&& (7 : Int64)).toInt32))] [(.int (((((p1.toUInt64 >>> (((3 : Int32) * p2) &&& 0x3f).toInt64.toUInt64).toInt64) &&& (7 : Int64)).toInt32) % p3))])) (fun tgt cont => ?_) ?_
  · refine XS.iloadN X0.here hx rfl (hb hby d3_14) rfl ?_
    refine iremM X0 hx rfl (hb hby d3_15) rfl hnz ?_
    exact cont
  refine own_end X0 (v := some (.int (((((p1.toUInt64 >>> (((3 : Int32) * p2) &&& 0x3f).toInt64.toUInt64).toInt64) &&& (7 : Int64)).toInt32) % p3))) (fun h => by rw [Bd.returns] at h; cases h) hlk ?_ (by decide) (by decide) (fun fs hl => retI X0 hx Bd.returns (hb hby d3_16) hl)
  exact ⟨(by unfold own_end_; exact rfl), N0, e0⟩
def own_hit (p1 : Int64) (p2 : Int32) (p3 : Int32) (p4 : Int32) : Int32 := if (own_end_ p1 p2 p3) = p4 then (1 : Int32) else (0 : Int32)
def Q_rm10 (Z : State) (p1 : Int64) (p2 : Int32) (p3 : Int32) (p4 : Int32) (h0 : Heap) (n0 : Nat) (v : Option Value) (h : Heap) (L : List Loc) : Prop := v = some (.int (own_hit p1 p2 p3 p4)) ∧ Fr n0 L ∧ h = h0
theorem own_pd6 : parseMethodDescriptor "(JII)I" = some ⟨[.long, .int, .int], some .int⟩ := by decide +kernel
theorem d10_0 : decode method_4_code 0 = .ok (.lload_n 0, 1) := by decide +kernel
theorem d10_1 : decode method_4_code 1 = .ok (.iload_n 2, 1) := by decide +kernel
theorem d10_2 : decode method_4_code 2 = .ok (.iload_n 3, 1) := by decide +kernel
theorem d10_3 : decode method_4_code 3 = .ok (.invokestatic 13, 3) := by decide +kernel
theorem d10_6 : decode method_4_code 6 = .ok (.iload 4, 2) := by decide +kernel
theorem d10_8 : decode method_4_code 8 = .ok (.if_icmp .ne 7, 3) := by decide +kernel
theorem d10_11 : decode method_4_code 11 = .ok (.iconst 1, 1) := by decide +kernel
theorem d10_12 : decode method_4_code 12 = .ok (.goto 4, 3) := by decide +kernel
theorem d10_15 : decode method_4_code 15 = .ok (.iconst 0, 1) := by decide +kernel
theorem d10_16 : decode method_4_code 16 = .ok (.ireturn, 1) := by decide +kernel
set_option maxRecDepth 65536 in
set_option maxHeartbeats 40000000 in
theorem rm10 (l : Launch) (Z : State) (a0 : Array Value) (hw : ∀ d ∈ tables_1, d.before a0 Z = true) (ws : List Jvm.Cond) (p1 : Int64) (p2 : Int32) (p3 : Int32) (p4 : Int32) (h0 : Heap) (n0 : Nat) (Z0 : n0 ≤ h0.size) (hnz : p3 ≠ 0) :
    MetFree l (⟨"com/example/cyclecut/cyclecut/graph/BuilderAddEdgePinLaw", "hit", "(JIII)I"⟩ : MethodName) (head1 (Jvm.Cond.code (⟨"com/example/cyclecut/cyclecut/graph/BuilderAddEdgePinLaw", "hit", "(JIII)I"⟩ : MethodName) method_4_code 5 (some .int) :: ws) ({ frames := 1, cells := 0, slots := 0, locals := 16 } : Room)) (fun aa U => aa = #[(.long p1), (.int p2), (.int p3), (.int p4)] ∧ Z.Warmed39 U.vm ∧ U.heap = h0) (fun _ _ _ _ _ => True) (fun _ U o U' => ∃ v L, o = .returned v ∧ Q_rm10 Z p1 p2 p3 p4 h0 n0 v U'.heap L ∧ FrameEnd U o U' L ({ frames := 1, cells := 0, slots := 0, locals := 16 } : Room).cells ({ frames := 1, cells := 0, slots := 0, locals := 16 } : Room).slots) := by
  refine MetFree.of_bodySF (plainFor_of_name own_pn5) hisR ?_
  intro p e s m args below meth c s₁ Bd hml0 hP hK
  obtain ⟨rfl, hZ, hh⟩ := hP
  have hx := Bd.exec
  have hby := Bd.bytes
  have hml : c.maxLocals = 5 := hml0
  have hlk : meth.locks = false := BodyLoose.notSynchronized Bd
  have hown : s.vm.findClass "com/example/cyclecut/cyclecut/graph/BuilderAddEdgePinLaw" = some m.cls := findClass_of_methodNamed Bd.named
  have hnm := (name_of_methodNamed Bd.named Bd.method).1
  have X0 : Stand p l e ({ frames := 1, cells := 0, slots := 0, locals := 16 } : Room) s m #[(.long p1), (.int p2), (.int p3), (.int p4)] below meth c s₁ [] 0 0 := Stand.of_body Bd
  have e0 : s₁.heap = h0 := by rw [← hh, Bd.state]; rfl
  have N0 := Fr.nil n0
  show own_Go p e below s (Q_rm10 Z p1 p2 p3 p4 h0 n0) 0 0 (s₁.setTop (entryFrame m #[(.long p1), (.int p2), (.int p3), (.int p4)] 5))
  refine own_go (B := s₁.setTop (mkF m 0 #[.val (.long p1), .second, .val (.int p2), .val (.int p3), .val (.int p4)] [])) (fun tgt cont => (XT.entry rfl).trans cont) ?_
  refine own_go (B := s₁.setTop (mkF m 3 #[.val (.long p1), .second, .val (.int p2), .val (.int p3), .val (.int p4)] [(.int p3), (.int p2), (.long p1)])) (fun tgt cont => ?_) ?_
  · refine XS.lloadN X0.here hx rfl (hb hby d10_0) rfl ?_
    refine XS.iloadN X0.here hx rfl (hb hby d10_1) rfl ?_
    refine XS.iloadN X0.here hx rfl (hb hby d10_2) rfl ?_
    exact cont
  -- pc 3: BuilderAddEdgePinLaw.end
  obtain ⟨_, _, ⟨T1, L1, k1, n1⟩, -, X1, ⟨Lc1, hQ1, l1, y1, z1⟩, st1⟩ := Jvm.LawKit.callS X0 hx (y := (⟨"com/example/cyclecut/cyclecut/graph/BuilderAddEdgePinLaw", "end", "(JII)I"⟩ : MethodName)) hown (mvT hZ (hw _ (List.mem_of_getElem? (i := 17) rfl))) (mvT hZ (hw _ (List.mem_of_getElem? (i := 18) rfl))) (mvT hZ (hw _ (List.mem_of_getElem? (i := 19) rfl))) (mvT hZ (hw _ (List.mem_of_getElem? (i := 20) rfl))) (by decide) (backOf (W := 0) (rm3 l Z a0 hw [] p1 p2 p3 h0 n0 Z0 hnz) hZ (hw _ (List.mem_of_getElem? (i := 20) rfl)) (hw _ (List.mem_of_getElem? (i := 19) rfl)) (by decide) (by decide)) (g := (mkF m 3 #[.val (.long p1), .second, .val (.int p2), .val (.int p3), .val (.int p4)] [(.int p3), (.int p2), (.long p1)])) rfl (by rw [hml]; rfl) (argsL := [(.long p1), (.int p2), (.int p3)]) (rest := []) (lenOf own_pd6 rfl) rfl (by show 2 * 0 + _ ≤ _; exact Nat.le_of_eq rfl) (hb hby d10_3) (fun _ _ => ⟨rfl, e0, (by decide : 0 + 0 ≤ _), (by decide : 0 + 0 ≤ _)⟩)
  dsimp only [Pt.U, Pt.locs, Pt.cells, Pt.slots] at X1 l1 y1 z1 st1 hQ1
  subst y1 z1
  obtain ⟨rfl, N1q, e1⟩ := hQ1
  have N1 : Fr n0 L1 := by rw [l1]; exact Fr.app N0 N1q
  refine own_go (fun tgt cont => st1 tgt cont) ?_
  show own_Go p e below s (Q_rm10 Z p1 p2 p3 p4 h0 n0) 0 0 (T1.setTop (mkF m 6 #[.val (.long p1), .second, .val (.int p2), .val (.int p3), .val (.int p4)] [(.int (own_end_ p1 p2 p3))]))
  refine own_go (B := T1.setTop (mkF m 8 #[.val (.long p1), .second, .val (.int p2), .val (.int p3), .val (.int p4)] [(.int p4), (.int (own_end_ p1 p2 p3))])) (fun tgt cont => ?_) ?_
  · refine XS.iload X1.here hx rfl (hb hby d10_6) rfl ?_
    exact cont
  by_cases hc2 : (own_end_ p1 p2 p3) = p4
  ·
    refine own_go (B := T1.setTop (mkF m 16 #[.val (.long p1), .second, .val (.int p2), .val (.int p3), .val (.int p4)] [(.int (1 : Int32))])) (fun tgt cont => ?_) ?_
    · refine XS.icmpNo X1.here hx rfl (hb hby d10_8) rfl (XT.ii_ne_f hc2) ?_
      refine XT.iconstV X1.here hx rfl (1 : Int32) (hb hby d10_11) rfl ?_
      refine XS.goto X1.here hx rfl (pc0 := 12) (pc' := 16) rfl (hb hby d10_12) (by decide) (by decide) ?_
      exact cont
    refine own_end X1 (v := some (.int (1 : Int32))) (fun h => by rw [Bd.returns] at h; cases h) hlk ?_ (by decide) (by decide) (fun fs hl => retI X1 hx Bd.returns (hb hby d10_16) hl)
    exact ⟨(by unfold own_hit; first | (simp only [if_pos hc2]; done) | (simp only [if_pos hc2]; exact rfl) | exact rfl), N1, e1⟩
  ·
    refine own_go (B := T1.setTop (mkF m 16 #[.val (.long p1), .second, .val (.int p2), .val (.int p3), .val (.int p4)] [(.int (0 : Int32))])) (fun tgt cont => ?_) ?_
    · refine XS.icmpYes X1.here hx rfl (pc0 := 8) (pc' := 15) rfl (hb hby d10_8) rfl (XT.ii_ne_t hc2) (by decide) (by decide) ?_
      refine XT.iconstV X1.here hx rfl (0 : Int32) (hb hby d10_15) rfl ?_
      exact cont
    refine own_end X1 (v := some (.int (0 : Int32))) (fun h => by rw [Bd.returns] at h; cases h) hlk ?_ (by decide) (by decide) (fun fs hl => retI X1 hx Bd.returns (hb hby d10_16) hl)
    exact ⟨(by unfold own_hit; first | (simp only [if_neg hc2]; done) | (simp only [if_neg hc2]; exact rfl) | exact rfl), N1, e1⟩
def own_nt (es : List Int32) : List Nat := es.map Int32.toNatClampNeg
/-- ds holds the degrees that the ends es make over N vertices -/
def own_DG (es ds : List Int32) (N : Nat) : Prop := ds.length = N ∧ (∀ e ∈ es, ¬ e < 0 ∧ e.toNatClampNeg < N) ∧ ∀ v, v < N → ds.getD v 0 = Int32.ofNat ((own_nt es).count v)
theorem own_getSet (l : List Int32) (i j : Nat) (x : Int32) (h : i < l.length) : (l.set i x).getD j 0 = if i = j then x else l.getD j 0 := by
  rw [List.getD_eq_getElem?_getD, List.getD_eq_getElem?_getD, List.getElem?_set]
  by_cases e : i = j
  · subst e; rw [if_pos rfl, if_pos rfl, if_pos h]; rfl
  · rw [if_neg e, if_neg e]
theorem own_getRep (n j : Nat) : (List.replicate n (0 : Int32)).getD j 0 = 0 := by
  rw [List.getD_eq_getElem?_getD, List.getElem?_replicate]
  by_cases h : j < n
  · rw [if_pos h]; rfl
  · rw [if_neg h]; rfl
theorem own_DG0 (N : Nat) : own_DG [] (List.replicate N 0) N := ⟨List.length_replicate, (fun _ h => by cases h), fun v _ => own_getRep N v⟩
theorem own_DG1 {es ds : List Int32} {N : Nat} {p : Int32} (h : own_DG es ds N) (hp : ¬ p < 0) (hq : p.toNatClampNeg < N) : own_DG (es ++ [p]) (ds.set p.toNatClampNeg (ds.getD p.toNatClampNeg 0 + (1 : Int32))) N := by
  obtain ⟨h1, h2, h3⟩ := h
  refine ⟨by rw [List.length_set]; exact h1, ?_, ?_⟩
  · intro e he
    rcases List.mem_append.mp he with h | h
    · exact h2 e h
    · rw [List.mem_singleton.mp h]; exact ⟨hp, hq⟩
  · intro v hv
    have e1 : own_nt (es ++ [p]) = own_nt es ++ [p.toNatClampNeg] := by unfold own_nt; rw [List.map_append]; rfl
    rw [own_getSet _ _ _ _ (by rw [h1]; exact hq), e1, List.count_append, List.count_singleton]
    by_cases e : p.toNatClampNeg = v
    · subst e; rw [if_pos rfl, h3 _ hv, own_one]; simp
    · rw [if_neg e, h3 _ hv]; simp [e]
/-- the ends below v: where v's slots begin -/
def own_pre (es : List Int32) (v : Nat) : Nat := (own_nt es).countP (fun x => decide (x < v))
theorem own_pre_step (es : List Int32) (v : Nat) : own_pre es (v + 1) = own_pre es v + (own_nt es).count v := by
  unfold own_pre
  generalize own_nt es = L
  induction L with
  | nil => rfl
  | cons a L ih =>
    rw [List.countP_cons, List.countP_cons, List.count_cons, ih]
    simp only [decide_eq_true_eq, beq_iff_eq]
    by_cases h1 : a < v
    · have h2 : a < v + 1 := by omega
      have h3 : ¬ a = v := by omega
      simp [h1, h2, h3]; omega
    · by_cases h3 : a = v
      · subst h3; simp; omega
      · have h2 : ¬ a < v + 1 := by omega
        simp [h1, h2, h3]
theorem own_pre_le (es : List Int32) (v : Nat) : own_pre es v ≤ es.length := by
  unfold own_pre own_nt
  have := List.countP_le_length (p := fun x => decide (x < v)) (l := es.map Int32.toNatClampNeg)
  rw [List.length_map] at this; exact this
theorem own_pre_mono (es : List Int32) {v w : Nat} (h : v ≤ w) : own_pre es v ≤ own_pre es w := by
  induction w with
  | zero => have : v = 0 := by omega
            rw [this]; exact Nat.le_refl _
  | succ w ih =>
    rcases Nat.lt_or_ge v (w + 1) with q | q
    · rw [own_pre_step]; have := ih (by omega); omega
    · have : v = w + 1 := by omega
      rw [this]; exact Nat.le_refl _
theorem own_fsL_at {es ds : List Int32} {N : Nat} (h : own_DG es ds N) : ∀ v, v ≤ N → ∀ u, (own_fsL ds v (List.replicate (N + 1) 0)).getD u 0 = if u ≤ v then Int32.ofNat (own_pre es u) else 0 := by
  intro v
  induction v with
  | zero =>
    intro _ u
    rw [own_fsL, own_getRep]
    by_cases e : u ≤ 0
    · have : u = 0 := by omega
      subst this; rw [if_pos e]
      have : own_pre es 0 = 0 := by unfold own_pre; simp
      rw [this]; rfl
    · rw [if_neg e]
  | succ v ih =>
    intro hv u
    rw [own_fsL, own_getSet _ _ _ _ (by rw [own_fsL_len2]; omega), ih (by omega), ih (by omega), if_pos (Nat.le_refl v), h.2.2 v (by omega), ← Int32.ofNat_add, ← own_pre_step]
    by_cases e : v + 1 = u
    · subst e; rw [if_pos rfl, if_pos (Nat.le_refl _)]
    · rw [if_neg e]
      by_cases q : u ≤ v
      · rw [if_pos q, if_pos (by omega)]
      · rw [if_neg q, if_neg (by omega)]
/-- the end i's slot -/
def own_slot (es : List Int32) (i : Nat) : Nat := own_pre es (es.getD i 0).toNatClampNeg + ((own_nt es).take i).count (es.getD i 0).toNatClampNeg
theorem own_nt_len (es : List Int32) : (own_nt es).length = es.length := List.length_map ..
theorem own_nt_get (es : List Int32) {i : Nat} (h : i < es.length) : (own_nt es)[i]? = some (es.getD i 0).toNatClampNeg := by
  unfold own_nt
  rw [List.getElem?_map, List.getD_eq_getElem?_getD, List.getElem?_eq_getElem h]; rfl
theorem own_takeS (es : List Int32) {i : Nat} (h : i < es.length) : (own_nt es).take (i + 1) = (own_nt es).take i ++ [(es.getD i 0).toNatClampNeg] := by
  rw [List.take_add_one, own_nt_get es h]; rfl
theorem own_cnt_take (L : List Nat) (v i : Nat) : (L.take i).count v ≤ L.count v := List.Sublist.count_le _ (List.take_sublist i L)
theorem own_cnt_take2 (L : List Nat) (v : Nat) {i j : Nat} (h : i ≤ j) : (L.take i).count v ≤ (L.take j).count v := by
  have e : L.take i = (L.take j).take i := by rw [List.take_take, Nat.min_eq_left h]
  rw [e]; exact own_cnt_take _ _ _
theorem own_slot_lt (es : List Int32) {i : Nat} (h : i < es.length) : own_slot es i < own_pre es ((es.getD i 0).toNatClampNeg + 1) := by
  unfold own_slot
  rw [own_pre_step]
  have a := own_cnt_take (own_nt es) (es.getD i 0).toNatClampNeg (i + 1)
  rw [own_takeS es h, List.count_append, List.count_singleton_self] at a
  omega
theorem own_slot_len (es : List Int32) {i : Nat} (h : i < es.length) : own_slot es i < es.length := Nat.lt_of_lt_of_le (own_slot_lt es h) (own_pre_le _ _)
theorem own_slot_inj (es : List Int32) {i j : Nat} (hi : i < es.length) (hj : j < es.length) (e : own_slot es i = own_slot es j) : i = j := by
  have main : ∀ {i j : Nat}, i < es.length → j < es.length → own_slot es i = own_slot es j → ¬ (es.getD i 0).toNatClampNeg < (es.getD j 0).toNatClampNeg := by
    intro i j hi hj e q
    have a := own_slot_lt es hi
    have b := own_pre_mono es (v := (es.getD i 0).toNatClampNeg + 1) (w := (es.getD j 0).toNatClampNeg) (by omega)
    have c : own_pre es (es.getD j 0).toNatClampNeg ≤ own_slot es j := by unfold own_slot; omega
    omega
  have main2 : ∀ {i j : Nat}, i < es.length → own_slot es i = own_slot es j → (es.getD i 0).toNatClampNeg = (es.getD j 0).toNatClampNeg → ¬ i < j := by
    intro i j hi e q h
    unfold own_slot at e
    have a := own_cnt_take2 (own_nt es) (es.getD i 0).toNatClampNeg (i := i + 1) (j := j) h
    rw [own_takeS es hi, List.count_append, List.count_singleton_self] at a
    rw [q] at a e
    omega
  have n1 := main hi hj e
  have n2 := main hj hi e.symm
  have m1 := main2 hi e (by omega)
  have m2 := main2 hj e.symm (by omega)
  omega
/-- the next free slots when i ends are laid -/
theorem own_ln_at {es n0 : List Int32} {N : Nat} (hr : ∀ e ∈ es, ¬ e < 0 ∧ e.toNatClampNeg < N) (hl : n0.length = N) (h0 : ∀ v, v < N → n0.getD v 0 = Int32.ofNat (own_pre es v)) : ∀ i, i ≤ es.length → ∀ v, v < N → (own_ln es n0 i).getD v 0 = Int32.ofNat (own_pre es v + ((own_nt es).take i).count v) := by
  intro i
  induction i with
  | zero => intro _ v hv; rw [own_ln, h0 v hv]; simp
  | succ i ih =>
    intro hi v hv
    have he : i < es.length := by omega
    have hm : es.getD i 0 ∈ es := by
      rw [List.getD_eq_getElem?_getD, List.getElem?_eq_getElem he]; exact List.getElem_mem he
    have hb := (hr _ hm).2
    rw [own_ln, own_getSet _ _ _ _ (by rw [own_ln_len, hl]; exact hb), own_takeS es he, List.count_append, List.count_singleton, ih (by omega) v hv]
    by_cases e : (es.getD i 0).toNatClampNeg = v
    · subst e; rw [if_pos rfl, ih (by omega) _ hb, own_one, beq_self_eq_true, if_pos rfl, Nat.add_assoc]
    · rw [if_neg e, beq_false_of_ne e, if_neg Bool.false_ne_true, Nat.add_zero]
theorem own_mem {es : List Int32} {i : Nat} (he : i < es.length) : es.getD i 0 ∈ es := by
  rw [List.getD_eq_getElem?_getD, List.getElem?_eq_getElem he]; exact List.getElem_mem he
theorem own_ln_slot {es n0 : List Int32} {N : Nat} (hr : ∀ e ∈ es, ¬ e < 0 ∧ e.toNatClampNeg < N) (hl : n0.length = N) (h0 : ∀ v, v < N → n0.getD v 0 = Int32.ofNat (own_pre es v)) {i : Nat} (hi : i < es.length) : (own_ln es n0 i).getD (es.getD i 0).toNatClampNeg 0 = Int32.ofNat (own_slot es i) :=
  own_ln_at hr hl h0 i (Nat.le_of_lt hi) _ (hr _ (own_mem hi)).2
theorem own_xor1 : ∀ i, i < 32 → Int32.ofNat i ^^^ (1 : Int32) = Int32.ofNat (i ^^^ 1) := by decide
theorem own_xorN : ∀ k, k < 17 → ∀ i, i < 2 * k → i ^^^ 1 < 2 * k := by decide
theorem own_cofN {p : Int32} {fs : List Int32} (hn : ¬ p < 0) (hl : fs.length = p.toNatClampNeg + 1) (h8 : p.toNatClampNeg ≤ 32) : own_cof_l p fs = fs.take p.toNatClampNeg := by
  have q : own_min (Int32.ofNat fs.length) p = p := by
    unfold own_min
    rw [if_pos]
    have e0 : (0 : Int32).toInt = 0 := rfl
    rw [Int32.lt_iff_toInt_lt, e0] at hn
    rw [Int32.lt_iff_toInt_lt, own_toI (by omega), hl, Int32.toNatClampNeg]; omega
  unfold own_cof_l
  rw [q, List.drop_of_length_le (by rw [List.length_replicate]; exact Nat.le_refl _), List.append_nil]
/-- n0: the slots' beginnings -/
theorem own_n0_at {es ds : List Int32} {p : Int32} (hn : ¬ p < 0) (h8 : p.toNatClampNeg ≤ 32) (h : own_DG es ds p.toNatClampNeg) :
    (own_cof_l p (own_fsL ds p.toNatClampNeg (List.replicate (p.toNatClampNeg + 1) 0))).length = p.toNatClampNeg ∧ ∀ v, v < p.toNatClampNeg → (own_cof_l p (own_fsL ds p.toNatClampNeg (List.replicate (p.toNatClampNeg + 1) 0))).getD v 0 = Int32.ofNat (own_pre es v) := by
  have q := own_fsL_at h p.toNatClampNeg (Nat.le_refl _)
  have ll := own_fsL_len2 ds p.toNatClampNeg (p.toNatClampNeg + 1)
  rw [own_cofN hn ll h8]
  refine ⟨by rw [List.length_take, ll]; omega, fun v hv => ?_⟩
  have e := q v
  rw [if_pos (Nat.le_of_lt hv)] at e
  rw [← e, List.getD_eq_getElem?_getD, List.getD_eq_getElem?_getD, List.getElem?_take_of_lt hv]
theorem own_GBmk {es ds : List Int32} {p : Int32} {k : Nat} (hn : ¬ p < 0) (h8 : p.toNatClampNeg ≤ 32) (h : own_DG es ds p.toNatClampNeg) (hl : es.length = 2 * k) (hk : k ≤ 16) : own_GB es (own_cof_l p (own_fsL ds p.toNatClampNeg (List.replicate (p.toNatClampNeg + 1) 0))) := by
  obtain ⟨a, b⟩ := own_n0_at hn h8 h
  intro i hi
  have c := own_ln_slot h.2.1 a b hi
  have d := own_slot_len es hi
  have hx := own_xorN k (by omega) i (by omega)
  rw [c, own_xor1 i (by omega), a]
  refine ⟨h.2.1 _ (own_mem hi), own_inN d (by omega), ?_⟩
  rw [hl]; exact own_inN hx (by omega)
/-- the sum of the hits -/
theorem own_cntF {w : Int32} (hw : ¬ w < 0) : ∀ (es : List Int32) (a : Nat), (∀ e ∈ es, ¬ e < 0) → es.foldl (fun s e => s + if e = w then (1 : Int32) else (0 : Int32)) (Int32.ofNat a) = Int32.ofNat (a + (own_nt es).count w.toNatClampNeg) := by
  intro es
  induction es with
  | nil => intro a _; rfl
  | cons x es ih =>
    intro a h
    have hx := h x (List.mem_cons_self ..)
    have hs := fun e he => h e (List.mem_cons_of_mem _ he)
    have e1 : own_nt (x :: es) = x.toNatClampNeg :: own_nt es := rfl
    rw [List.foldl_cons, e1, List.count_cons]
    by_cases e : x = w
    · subst e; rw [if_pos rfl, own_one, ih _ hs, beq_self_eq_true, if_pos rfl]; exact congrArg Int32.ofNat (by omega)
    · have e2 : ¬ x.toNatClampNeg = w.toNatClampNeg := by
        intro q; apply e
        have e0 : (0 : Int32).toInt = 0 := rfl
        rw [Int32.lt_iff_toInt_lt, e0] at hw hx
        rw [Int32.toNatClampNeg, Int32.toNatClampNeg] at q
        exact Int32.toInt_inj.mp (by omega)
      rw [if_neg e, Int32.add_zero, ih _ hs, beq_false_of_ne e2, if_neg Bool.false_ne_true, Nat.add_zero]

theorem own_n3a {n : Int32} (h : 1 ≤ n.toInt ∧ n.toInt ≤ 8) : ¬ n < 0 := by
  have e0 : (0 : Int32).toInt = 0 := rfl
  rw [Int32.lt_iff_toInt_lt, e0]; omega
theorem own_n3b {n : Int32} (h : 1 ≤ n.toInt ∧ n.toInt ≤ 8) : n.toNatClampNeg ≤ 8 := by rw [Int32.toNatClampNeg]; omega
theorem own_n3c {n : Int32} (h : 1 ≤ n.toInt ∧ n.toInt ≤ 8) : n ≠ 0 := by
  intro e
  have e0 : (0 : Int32).toInt = 0 := rfl
  rw [e, e0] at h; omega
/-- a number below n, from its remainder -/
def own_be (r n : Int32) : Prop := ¬ r < 0 ∧ r < n ∧ r.toNatClampNeg < n.toNatClampNeg
theorem own_beR {y n : Int32} (h : 1 ≤ n.toInt ∧ n.toInt ≤ 8) (hy : 0 ≤ y.toInt) : own_be (y % n) n := by
  have q := (c_iremV y n).1 hy (by omega)
  have e0 : (0 : Int32).toInt = 0 := rfl
  generalize y % n = r at *
  unfold own_be
  rw [Int32.lt_iff_toInt_lt, Int32.lt_iff_toInt_lt, e0, Int32.toNatClampNeg, Int32.toNatClampNeg]; omega
theorem own_dB {es ds : List Int32} {n r : Int32} (D : own_DG es ds n.toNatClampNeg) (b : own_be r n) : ¬ r < 0 ∧ r.toNatClampNeg < ds.length := ⟨b.1, by rw [D.1]; exact b.2.2⟩
theorem own_DGa {es ds ds' : List Int32} {n p q : Int32} (D : own_DG es ds n.toNatClampNeg) (b : own_be p n) (c : own_be q n) (h : own_ae_ds p q ds = ds') : own_DG (es ++ [p] ++ [q]) ds' n.toNatClampNeg := by
  subst h; exact own_DG1 (own_DG1 D b.1 b.2.2) c.1 c.2.2
theorem own_hg0 {es : List Int32} (h : es.length = 16) : ¬ ((2 : Int32) * (0 : Int32)) = (Int32.ofNat es.length) := by rw [h]; decide
theorem own_c1_0 {es : List Int32} (h : es.length = 16) : ¬ ((2 : Int32) * (0 : Int32)) < 0 ∧ ((2 : Int32) * (0 : Int32)).toNatClampNeg < es.length := by rw [h]; decide
theorem own_c2_0 {es : List Int32} (h : es.length = 16) : ¬ (((2 : Int32) * (0 : Int32)) + (1 : Int32)) < 0 ∧ (((2 : Int32) * (0 : Int32)) + (1 : Int32)).toNatClampNeg < es.length := by rw [h]; decide
theorem own_es0 (x0 x1 x2 x3 x4 x5 x6 x7 x8 x9 x10 x11 x12 x13 x14 x15 p q : Int32) : own_ae_es p q (0 : Int32) [x0, x1, x2, x3, x4, x5, x6, x7, x8, x9, x10, x11, x12, x13, x14, x15] = [p, q, x2, x3, x4, x5, x6, x7, x8, x9, x10, x11, x12, x13, x14, x15] := rfl
theorem own_ec0 : own_ae_edgeCount (0 : Int32) = (1 : Int32) := by decide
theorem own_hg1 {es : List Int32} (h : es.length = 16) : ¬ ((2 : Int32) * (1 : Int32)) = (Int32.ofNat es.length) := by rw [h]; decide
theorem own_c1_1 {es : List Int32} (h : es.length = 16) : ¬ ((2 : Int32) * (1 : Int32)) < 0 ∧ ((2 : Int32) * (1 : Int32)).toNatClampNeg < es.length := by rw [h]; decide
theorem own_c2_1 {es : List Int32} (h : es.length = 16) : ¬ (((2 : Int32) * (1 : Int32)) + (1 : Int32)) < 0 ∧ (((2 : Int32) * (1 : Int32)) + (1 : Int32)).toNatClampNeg < es.length := by rw [h]; decide
theorem own_es1 (x0 x1 x2 x3 x4 x5 x6 x7 x8 x9 x10 x11 x12 x13 x14 x15 p q : Int32) : own_ae_es p q (1 : Int32) [x0, x1, x2, x3, x4, x5, x6, x7, x8, x9, x10, x11, x12, x13, x14, x15] = [x0, x1, p, q, x4, x5, x6, x7, x8, x9, x10, x11, x12, x13, x14, x15] := rfl
theorem own_ec1 : own_ae_edgeCount (1 : Int32) = (2 : Int32) := by decide
theorem own_hg2 {es : List Int32} (h : es.length = 16) : ¬ ((2 : Int32) * (2 : Int32)) = (Int32.ofNat es.length) := by rw [h]; decide
theorem own_c1_2 {es : List Int32} (h : es.length = 16) : ¬ ((2 : Int32) * (2 : Int32)) < 0 ∧ ((2 : Int32) * (2 : Int32)).toNatClampNeg < es.length := by rw [h]; decide
theorem own_c2_2 {es : List Int32} (h : es.length = 16) : ¬ (((2 : Int32) * (2 : Int32)) + (1 : Int32)) < 0 ∧ (((2 : Int32) * (2 : Int32)) + (1 : Int32)).toNatClampNeg < es.length := by rw [h]; decide
theorem own_es2 (x0 x1 x2 x3 x4 x5 x6 x7 x8 x9 x10 x11 x12 x13 x14 x15 p q : Int32) : own_ae_es p q (2 : Int32) [x0, x1, x2, x3, x4, x5, x6, x7, x8, x9, x10, x11, x12, x13, x14, x15] = [x0, x1, x2, x3, p, q, x6, x7, x8, x9, x10, x11, x12, x13, x14, x15] := rfl
theorem own_ec2 : own_ae_edgeCount (2 : Int32) = (3 : Int32) := by decide
theorem own_hg3 {es : List Int32} (h : es.length = 16) : ¬ ((2 : Int32) * (3 : Int32)) = (Int32.ofNat es.length) := by rw [h]; decide
theorem own_c1_3 {es : List Int32} (h : es.length = 16) : ¬ ((2 : Int32) * (3 : Int32)) < 0 ∧ ((2 : Int32) * (3 : Int32)).toNatClampNeg < es.length := by rw [h]; decide
theorem own_c2_3 {es : List Int32} (h : es.length = 16) : ¬ (((2 : Int32) * (3 : Int32)) + (1 : Int32)) < 0 ∧ (((2 : Int32) * (3 : Int32)) + (1 : Int32)).toNatClampNeg < es.length := by rw [h]; decide
theorem own_es3 (x0 x1 x2 x3 x4 x5 x6 x7 x8 x9 x10 x11 x12 x13 x14 x15 p q : Int32) : own_ae_es p q (3 : Int32) [x0, x1, x2, x3, x4, x5, x6, x7, x8, x9, x10, x11, x12, x13, x14, x15] = [x0, x1, x2, x3, x4, x5, p, q, x8, x9, x10, x11, x12, x13, x14, x15] := rfl
theorem own_ec3 : own_ae_edgeCount (3 : Int32) = (4 : Int32) := by decide
theorem own_hg4 {es : List Int32} (h : es.length = 16) : ¬ ((2 : Int32) * (4 : Int32)) = (Int32.ofNat es.length) := by rw [h]; decide
theorem own_c1_4 {es : List Int32} (h : es.length = 16) : ¬ ((2 : Int32) * (4 : Int32)) < 0 ∧ ((2 : Int32) * (4 : Int32)).toNatClampNeg < es.length := by rw [h]; decide
theorem own_c2_4 {es : List Int32} (h : es.length = 16) : ¬ (((2 : Int32) * (4 : Int32)) + (1 : Int32)) < 0 ∧ (((2 : Int32) * (4 : Int32)) + (1 : Int32)).toNatClampNeg < es.length := by rw [h]; decide
theorem own_es4 (x0 x1 x2 x3 x4 x5 x6 x7 x8 x9 x10 x11 x12 x13 x14 x15 p q : Int32) : own_ae_es p q (4 : Int32) [x0, x1, x2, x3, x4, x5, x6, x7, x8, x9, x10, x11, x12, x13, x14, x15] = [x0, x1, x2, x3, x4, x5, x6, x7, p, q, x10, x11, x12, x13, x14, x15] := rfl
theorem own_ec4 : own_ae_edgeCount (4 : Int32) = (5 : Int32) := by decide
theorem own_hg5 {es : List Int32} (h : es.length = 16) : ¬ ((2 : Int32) * (5 : Int32)) = (Int32.ofNat es.length) := by rw [h]; decide
theorem own_c1_5 {es : List Int32} (h : es.length = 16) : ¬ ((2 : Int32) * (5 : Int32)) < 0 ∧ ((2 : Int32) * (5 : Int32)).toNatClampNeg < es.length := by rw [h]; decide
theorem own_c2_5 {es : List Int32} (h : es.length = 16) : ¬ (((2 : Int32) * (5 : Int32)) + (1 : Int32)) < 0 ∧ (((2 : Int32) * (5 : Int32)) + (1 : Int32)).toNatClampNeg < es.length := by rw [h]; decide
theorem own_es5 (x0 x1 x2 x3 x4 x5 x6 x7 x8 x9 x10 x11 x12 x13 x14 x15 p q : Int32) : own_ae_es p q (5 : Int32) [x0, x1, x2, x3, x4, x5, x6, x7, x8, x9, x10, x11, x12, x13, x14, x15] = [x0, x1, x2, x3, x4, x5, x6, x7, x8, x9, p, q, x12, x13, x14, x15] := rfl
theorem own_ec5 : own_ae_edgeCount (5 : Int32) = (6 : Int32) := by decide
theorem own_hg6 {es : List Int32} (h : es.length = 16) : ¬ ((2 : Int32) * (6 : Int32)) = (Int32.ofNat es.length) := by rw [h]; decide
theorem own_c1_6 {es : List Int32} (h : es.length = 16) : ¬ ((2 : Int32) * (6 : Int32)) < 0 ∧ ((2 : Int32) * (6 : Int32)).toNatClampNeg < es.length := by rw [h]; decide
theorem own_c2_6 {es : List Int32} (h : es.length = 16) : ¬ (((2 : Int32) * (6 : Int32)) + (1 : Int32)) < 0 ∧ (((2 : Int32) * (6 : Int32)) + (1 : Int32)).toNatClampNeg < es.length := by rw [h]; decide
theorem own_es6 (x0 x1 x2 x3 x4 x5 x6 x7 x8 x9 x10 x11 x12 x13 x14 x15 p q : Int32) : own_ae_es p q (6 : Int32) [x0, x1, x2, x3, x4, x5, x6, x7, x8, x9, x10, x11, x12, x13, x14, x15] = [x0, x1, x2, x3, x4, x5, x6, x7, x8, x9, x10, x11, p, q, x14, x15] := rfl
theorem own_ec6 : own_ae_edgeCount (6 : Int32) = (7 : Int32) := by decide
theorem own_hg7 {es : List Int32} (h : es.length = 16) : ¬ ((2 : Int32) * (7 : Int32)) = (Int32.ofNat es.length) := by rw [h]; decide
theorem own_c1_7 {es : List Int32} (h : es.length = 16) : ¬ ((2 : Int32) * (7 : Int32)) < 0 ∧ ((2 : Int32) * (7 : Int32)).toNatClampNeg < es.length := by rw [h]; decide
theorem own_c2_7 {es : List Int32} (h : es.length = 16) : ¬ (((2 : Int32) * (7 : Int32)) + (1 : Int32)) < 0 ∧ (((2 : Int32) * (7 : Int32)) + (1 : Int32)).toNatClampNeg < es.length := by rw [h]; decide
theorem own_es7 (x0 x1 x2 x3 x4 x5 x6 x7 x8 x9 x10 x11 x12 x13 x14 x15 p q : Int32) : own_ae_es p q (7 : Int32) [x0, x1, x2, x3, x4, x5, x6, x7, x8, x9, x10, x11, x12, x13, x14, x15] = [x0, x1, x2, x3, x4, x5, x6, x7, x8, x9, x10, x11, x12, x13, p, q] := rfl
theorem own_ec7 : own_ae_edgeCount (7 : Int32) = (8 : Int32) := by decide
theorem own_n3 (p : Int32) : 1 ≤ ((p &&& (7 : Int32)) + (1 : Int32)).toInt ∧ ((p &&& (7 : Int32)) + (1 : Int32)).toInt ≤ 8 := by
  have h := c_mask p 7 3 (by decide) (by decide)
  generalize (p &&& 7) = y at *
  have a := c_iadd y 1
  have e1 : (1 : Int32).toInt = 1 := rfl
  rw [e1] at a
  have r := rng32 (y + 1)
  generalize y + 1 = z at *
  omega
theorem own_w3 {p n : Int32} (h : 1 ≤ n.toInt ∧ n.toInt ≤ 8) : own_be ((p &&& (2147483647 : Int32)) % n) n := by
  apply own_beR h
  have q := c_mask p 2147483647 31 (by decide) (by decide)
  rw [q]; exact Int.emod_nonneg _ (by decide)
theorem own_k3 (p : Int32) : 0 ≤ ((p &&& (2147483647 : Int32)) % (9 : Int32)).toInt ∧ ((p &&& (2147483647 : Int32)) % (9 : Int32)).toInt ≤ 8 := by
  have q := c_mask p 2147483647 31 (by decide) (by decide)
  have q2 : 0 ≤ (p &&& (2147483647 : Int32)).toInt := by rw [q]; exact Int.emod_nonneg _ (by decide)
  have t := (c_irem (p &&& (2147483647 : Int32)) 9 9 rfl).1 q2
  rw [t]; omega
theorem own_eB {x : Int64} {j n r : Int32} (h : 1 ≤ n.toInt ∧ n.toInt ≤ 8) (e : own_end_ x j n = r) : own_be r n := by
  subst e
  unfold own_end_
  apply own_beR h
  generalize (x.toUInt64 >>> (((3 : Int32) * j) &&& 0x3f).toInt64.toUInt64).toInt64 = y
  have q := c_maskL y 7 3 (by decide) (by decide)
  generalize y &&& (7 : Int64) = z at *
  have t := c_l2i z
  have r := rng32 z.toInt32
  generalize z.toInt32.toInt = u at *
  generalize z.toInt = v at *
  generalize y.toInt = y' at *
  omega
theorem own_DGg {es ds ds' : List Int32} {n p q : Int32} (D : own_DG es ds n.toNatClampNeg) (b : own_be p n) (c : own_be q n) (h : own_ag_ds p q ds = ds') : own_DG (es ++ [p] ++ [q]) ds' n.toNatClampNeg := by
  subst h; exact own_DG1 (own_DG1 D b.1 b.2.2) c.1 c.2.2
theorem own_hd9 {es : List Int32} (h : es.length = 32) : ¬ ((2 : Int32) * (9 : Int32)) = (Int32.ofNat es.length) := by rw [h]; decide
theorem own_LE18 (x0 x1 x2 x3 x4 x5 x6 x7 x8 x9 x10 x11 x12 x13 x14 x15 x16 x17 : Int32) : own_cof_l ((2 : Int32) * (9 : Int32)) [x0, x1, x2, x3, x4, x5, x6, x7, x8, x9, x10, x11, x12, x13, x14, x15, x16, x17, (0 : Int32), (0 : Int32), (0 : Int32), (0 : Int32), (0 : Int32), (0 : Int32), (0 : Int32), (0 : Int32), (0 : Int32), (0 : Int32), (0 : Int32), (0 : Int32), (0 : Int32), (0 : Int32)] = [x0, x1, x2, x3, x4, x5, x6, x7, x8, x9, x10, x11, x12, x13, x14, x15, x16, x17] := rfl
theorem own_hle18 (x0 x1 x2 x3 x4 x5 x6 x7 x8 x9 x10 x11 x12 x13 x14 x15 x16 x17 : Int32) : (own_cof_l ((2 : Int32) * (9 : Int32)) [x0, x1, x2, x3, x4, x5, x6, x7, x8, x9, x10, x11, x12, x13, x14, x15, x16, x17, (0 : Int32), (0 : Int32), (0 : Int32), (0 : Int32), (0 : Int32), (0 : Int32), (0 : Int32), (0 : Int32), (0 : Int32), (0 : Int32), (0 : Int32), (0 : Int32), (0 : Int32), (0 : Int32)]).length ≤ 32 := by
  rw [own_LE18]; exact Nat.le_of_ble_eq_true rfl
theorem own_gb18 {x0 x1 x2 x3 x4 x5 x6 x7 x8 x9 x10 x11 x12 x13 x14 x15 x16 x17 n : Int32} {ds : List Int32} (h : 1 ≤ n.toInt ∧ n.toInt ≤ 8) (D : own_DG [x0, x1, x2, x3, x4, x5, x6, x7, x8, x9, x10, x11, x12, x13, x14, x15, x16, x17] ds n.toNatClampNeg) : own_GB (own_cof_l ((2 : Int32) * (9 : Int32)) [x0, x1, x2, x3, x4, x5, x6, x7, x8, x9, x10, x11, x12, x13, x14, x15, x16, x17, (0 : Int32), (0 : Int32), (0 : Int32), (0 : Int32), (0 : Int32), (0 : Int32), (0 : Int32), (0 : Int32), (0 : Int32), (0 : Int32), (0 : Int32), (0 : Int32), (0 : Int32), (0 : Int32)]) (own_cof_l n (own_fsL ds n.toNatClampNeg (List.replicate (n.toNatClampNeg + 1) 0))) := by
  rw [own_LE18]; exact own_GBmk (k := 9) (own_n3a h) (Nat.le_trans (own_n3b h) (by decide)) D rfl (by decide)
theorem own_k9 {k : Int32} (h : 0 ≤ k.toInt ∧ k.toInt ≤ 8) : k = 0 ∨ k = 1 ∨ k = 2 ∨ k = 3 ∨ k = 4 ∨ k = 5 ∨ k = 6 ∨ k = 7 ∨ k = 8 := by
  have c : k.toInt = 0 ∨ k.toInt = 1 ∨ k.toInt = 2 ∨ k.toInt = 3 ∨ k.toInt = 4 ∨ k.toInt = 5 ∨ k.toInt = 6 ∨ k.toInt = 7 ∨ k.toInt = 8 := by omega
  rcases c with c | c | c | c | c | c | c | c | c
  · have e : k = 0 := Int32.toInt_inj.mp c
    subst e; decide
  · have e : k = 1 := Int32.toInt_inj.mp c
    subst e; decide
  · have e : k = 2 := Int32.toInt_inj.mp c
    subst e; decide
  · have e : k = 3 := Int32.toInt_inj.mp c
    subst e; decide
  · have e : k = 4 := Int32.toInt_inj.mp c
    subst e; decide
  · have e : k = 5 := Int32.toInt_inj.mp c
    subst e; decide
  · have e : k = 6 := Int32.toInt_inj.mp c
    subst e; decide
  · have e : k = 7 := Int32.toInt_inj.mp c
    subst e; decide
  · have e : k = 8 := Int32.toInt_inj.mp c
    subst e; decide
theorem own_q1 {k : Int32} (h : 0 ≤ k.toInt ∧ k.toInt ≤ 8) : ¬ k < 0 := by
  have e0 : (0 : Int32).toInt = 0 := rfl
  rw [Int32.lt_iff_toInt_lt, e0]; omega
theorem own_gecL {es : List Int32} (hl : es.length = 18) : own_gec_r es = 9 := by unfold own_gec_r; rw [hl]; decide
theorem own_q2 {k : Int32} {es : List Int32} (h : 0 ≤ k.toInt ∧ k.toInt ≤ 8) (hl : es.length = 18) : k < own_gec_r es := by
  rw [own_gecL hl]
  have e0 : (9 : Int32).toInt = 9 := rfl
  rw [Int32.lt_iff_toInt_lt, e0]; omega
theorem own_q3 {k : Int32} {es : List Int32} (h : 0 ≤ k.toInt ∧ k.toInt ≤ 8) (hl : es.length = 18) : ¬ ((2 : Int32) * (own_cx k (own_gec_r es))) < 0 ∧ ((2 : Int32) * (own_cx k (own_gec_r es))).toNatClampNeg < es.length := by
  rw [own_gecL hl, hl]
  rcases own_k9 h with e | e | e | e | e | e | e | e | e <;> subst e <;> decide
theorem own_q3s {k : Int32} {es : List Int32} (h : 0 ≤ k.toInt ∧ k.toInt ≤ 8) (hl : es.length = 18) : ¬ (((2 : Int32) * (own_cx k (own_gec_r es))) + (1 : Int32)) < 0 ∧ (((2 : Int32) * (own_cx k (own_gec_r es))) + (1 : Int32)).toNatClampNeg < es.length := by
  rw [own_gecL hl, hl]
  rcases own_k9 h with e | e | e | e | e | e | e | e | e <;> subst e <;> decide
theorem own_fst18 {x : Int64} {n k : Int32} (h : 0 ≤ k.toInt ∧ k.toInt ≤ 8) : own_gfir_r k [own_end_ x (0 : Int32) n, own_end_ x (1 : Int32) n, own_end_ x (2 : Int32) n, own_end_ x (3 : Int32) n, own_end_ x (4 : Int32) n, own_end_ x (5 : Int32) n, own_end_ x (6 : Int32) n, own_end_ x (7 : Int32) n, own_end_ x (8 : Int32) n, own_end_ x (9 : Int32) n, own_end_ x (10 : Int32) n, own_end_ x (11 : Int32) n, own_end_ x (12 : Int32) n, own_end_ x (13 : Int32) n, own_end_ x (14 : Int32) n, own_end_ x (15 : Int32) n, own_end_ x (16 : Int32) n, own_end_ x (17 : Int32) n] = own_end_ x ((2 : Int32) * k) n := by
  rcases own_k9 h with e | e | e | e | e | e | e | e | e
  · subst e; exact congrArg (fun j => own_end_ x j n) (show (0 : Int32) = ((2 : Int32) * (0 : Int32)) by decide)
  · subst e; exact congrArg (fun j => own_end_ x j n) (show (2 : Int32) = ((2 : Int32) * (1 : Int32)) by decide)
  · subst e; exact congrArg (fun j => own_end_ x j n) (show (4 : Int32) = ((2 : Int32) * (2 : Int32)) by decide)
  · subst e; exact congrArg (fun j => own_end_ x j n) (show (6 : Int32) = ((2 : Int32) * (3 : Int32)) by decide)
  · subst e; exact congrArg (fun j => own_end_ x j n) (show (8 : Int32) = ((2 : Int32) * (4 : Int32)) by decide)
  · subst e; exact congrArg (fun j => own_end_ x j n) (show (10 : Int32) = ((2 : Int32) * (5 : Int32)) by decide)
  · subst e; exact congrArg (fun j => own_end_ x j n) (show (12 : Int32) = ((2 : Int32) * (6 : Int32)) by decide)
  · subst e; exact congrArg (fun j => own_end_ x j n) (show (14 : Int32) = ((2 : Int32) * (7 : Int32)) by decide)
  · subst e; exact congrArg (fun j => own_end_ x j n) (show (16 : Int32) = ((2 : Int32) * (8 : Int32)) by decide)
theorem own_snd18 {x : Int64} {n k : Int32} (h : 0 ≤ k.toInt ∧ k.toInt ≤ 8) : own_gsec_r k [own_end_ x (0 : Int32) n, own_end_ x (1 : Int32) n, own_end_ x (2 : Int32) n, own_end_ x (3 : Int32) n, own_end_ x (4 : Int32) n, own_end_ x (5 : Int32) n, own_end_ x (6 : Int32) n, own_end_ x (7 : Int32) n, own_end_ x (8 : Int32) n, own_end_ x (9 : Int32) n, own_end_ x (10 : Int32) n, own_end_ x (11 : Int32) n, own_end_ x (12 : Int32) n, own_end_ x (13 : Int32) n, own_end_ x (14 : Int32) n, own_end_ x (15 : Int32) n, own_end_ x (16 : Int32) n, own_end_ x (17 : Int32) n] = own_end_ x (((2 : Int32) * k) + (1 : Int32)) n := by
  rcases own_k9 h with e | e | e | e | e | e | e | e | e
  · subst e; exact congrArg (fun j => own_end_ x j n) (show (1 : Int32) = (((2 : Int32) * (0 : Int32)) + (1 : Int32)) by decide)
  · subst e; exact congrArg (fun j => own_end_ x j n) (show (3 : Int32) = (((2 : Int32) * (1 : Int32)) + (1 : Int32)) by decide)
  · subst e; exact congrArg (fun j => own_end_ x j n) (show (5 : Int32) = (((2 : Int32) * (2 : Int32)) + (1 : Int32)) by decide)
  · subst e; exact congrArg (fun j => own_end_ x j n) (show (7 : Int32) = (((2 : Int32) * (3 : Int32)) + (1 : Int32)) by decide)
  · subst e; exact congrArg (fun j => own_end_ x j n) (show (9 : Int32) = (((2 : Int32) * (4 : Int32)) + (1 : Int32)) by decide)
  · subst e; exact congrArg (fun j => own_end_ x j n) (show (11 : Int32) = (((2 : Int32) * (5 : Int32)) + (1 : Int32)) by decide)
  · subst e; exact congrArg (fun j => own_end_ x j n) (show (13 : Int32) = (((2 : Int32) * (6 : Int32)) + (1 : Int32)) by decide)
  · subst e; exact congrArg (fun j => own_end_ x j n) (show (15 : Int32) = (((2 : Int32) * (7 : Int32)) + (1 : Int32)) by decide)
  · subst e; exact congrArg (fun j => own_end_ x j n) (show (17 : Int32) = (((2 : Int32) * (8 : Int32)) + (1 : Int32)) by decide)
theorem own_deg18 {x : Int64} {n w : Int32} {ds : List Int32} (D : own_DG [own_end_ x (0 : Int32) n, own_end_ x (1 : Int32) n, own_end_ x (2 : Int32) n, own_end_ x (3 : Int32) n, own_end_ x (4 : Int32) n, own_end_ x (5 : Int32) n, own_end_ x (6 : Int32) n, own_end_ x (7 : Int32) n, own_end_ x (8 : Int32) n, own_end_ x (9 : Int32) n, own_end_ x (10 : Int32) n, own_end_ x (11 : Int32) n, own_end_ x (12 : Int32) n, own_end_ x (13 : Int32) n, own_end_ x (14 : Int32) n, own_end_ x (15 : Int32) n, own_end_ x (16 : Int32) n, own_end_ x (17 : Int32) n] ds n.toNatClampNeg) (b : own_be w n) : own_bdg_r w ds = (((((((((((((((((own_hit x (0 : Int32) n w + own_hit x (1 : Int32) n w) + own_hit x (2 : Int32) n w) + own_hit x (3 : Int32) n w) + own_hit x (4 : Int32) n w) + own_hit x (5 : Int32) n w) + own_hit x (6 : Int32) n w) + own_hit x (7 : Int32) n w) + own_hit x (8 : Int32) n w) + own_hit x (9 : Int32) n w) + own_hit x (10 : Int32) n w) + own_hit x (11 : Int32) n w) + own_hit x (12 : Int32) n w) + own_hit x (13 : Int32) n w) + own_hit x (14 : Int32) n w) + own_hit x (15 : Int32) n w) + own_hit x (16 : Int32) n w) + own_hit x (17 : Int32) n w) := by
  unfold own_bdg_r
  rw [D.2.2 _ b.2.2]
  have q := own_cntF b.1 _ 0 (fun e he => (D.2.1 e he).1)
  rw [Nat.zero_add] at q
  rw [← q]
  simp only [List.foldl_cons, List.foldl_nil]
  rw [show Int32.ofNat 0 = 0 from rfl, Int32.zero_add]
  rfl
def Q0 (n0 : Nat) (v : Option Value) (h : Heap) (L : List Loc) : Prop := v = some (.int (1 : Int32)) ∧ Fr n0 L
theorem own_pd7 : parseMethodDescriptor "(I)V" = some ⟨[.int], none⟩ := by decide +kernel
theorem own_pd8 : parseMethodDescriptor "(JIII)I" = some ⟨[.long, .int, .int, .int], some .int⟩ := by decide +kernel
theorem own_pd9 : parseMethodDescriptor "(I)I" = some ⟨[.int], some .int⟩ := by decide +kernel
theorem own_pd10 : parseMethodDescriptor "()Lcom/example/cyclecut/cyclecut/graph/Graph;" = some ⟨[], some (.object "com/example/cyclecut/cyclecut/graph/Graph")⟩ := by decide +kernel
set_option maxRecDepth 65536 in
set_option maxHeartbeats 40000000 in
theorem rm0 (l : Launch) (Z : State) (a0 : Array Value) (hw : ∀ d ∈ tables_1, d.before a0 Z = true) (ws : List Jvm.Cond) (p1 : Int32) (p2 : Int64) (p3 : Int32) (p4 : Int32) (h0 : Heap) (n0 : Nat) (Z0 : n0 ≤ h0.size)  :
    MetFree l x (head1 (Jvm.Cond.code x code maxLocals ret :: ws) room_1) (fun aa U => aa = #[(.int p1), (.long p2), (.int p3), (.int p4)] ∧ Z.Warmed39 U.vm ∧ U.heap = h0) (fun _ _ _ _ _ => True) (fun _ U o U' => ∃ v L, o = .returned v ∧ Q0 n0 v U'.heap L ∧ FrameEnd U o U' L room_1.cells room_1.slots) := by
  refine MetFree.of_bodySF (plainFor_of_name own_pn5) hisR ?_
  intro p e s m args below meth c s₁ Bd hml0 hP hK
  obtain ⟨rfl, hZ, hh⟩ := hP
  have hx := Bd.exec
  have hby := Bd.bytes
  have hml : c.maxLocals = 12 := hml0
  have hlk : meth.locks = false := BodyLoose.notSynchronized Bd
  have hown : s.vm.findClass "com/example/cyclecut/cyclecut/graph/BuilderAddEdgePinLaw" = some m.cls := findClass_of_methodNamed Bd.named
  have hnm := (name_of_methodNamed Bd.named Bd.method).1
  have X0 : Stand p l e room_1 s m #[(.int p1), (.long p2), (.int p3), (.int p4)] below meth c s₁ [] 0 0 := Stand.of_body Bd
  have e0 : s₁.heap = h0 := by rw [← hh, Bd.state]; rfl
  have N0 := Fr.nil n0
  show own_Go p e below s (Q0 n0) room_1.cells room_1.slots (s₁.setTop (entryFrame m #[(.int p1), (.long p2), (.int p3), (.int p4)] maxLocals))
  refine own_go (B := s₁.setTop (mkF m 0 #[.val (.int p1), .val (.long p2), .second, .val (.int p3), .val (.int p4), .unset, .unset, .unset, .unset, .unset, .unset, .unset] [])) (fun tgt cont => (XT.entry rfl).trans cont) ?_
  refine own_go (B := s₁.setTop (mkF m 6 #[.val (.int p1), .val (.long p2), .second, .val (.int p3), .val (.int p4), .unset, .unset, .unset, .unset, .unset, .unset, .unset] [(.int ((p1 &&& (7 : Int32)) + (1 : Int32)))])) (fun tgt cont => ?_) ?_
  · refine XS.iloadN X0.here hx rfl (hb hby at_0) rfl ?_
    refine XT.bipushV X0.here hx rfl (7 : Int32) (hb hby at_1) rfl ?_
    refine XS.iand X0.here hx rfl (hb hby at_3) rfl ?_
    refine XT.iconstV X0.here hx rfl (1 : Int32) (hb hby at_4) rfl ?_
    refine XS.iadd X0.here hx rfl (hb hby at_5) rfl ?_
    exact cont
  generalize hv1 : ((p1 &&& (7 : Int32)) + (1 : Int32)) = v1
  refine own_go (B := s₁.setTop (mkF m 8 #[.val (.int p1), .val (.long p2), .second, .val (.int p3), .val (.int p4), .val (.int v1), .unset, .unset, .unset, .unset, .unset, .unset] [])) (fun tgt cont => ?_) ?_
  · refine XS.istore X0.here hx rfl (hb hby at_6) rfl (l' := #[.val (.int p1), .val (.long p2), .second, .val (.int p3), .val (.int p4), .val (.int v1), .unset, .unset, .unset, .unset, .unset, .unset]) rfl ?_
    exact cont
  have n1 : 1 ≤ v1.toInt ∧ v1.toInt ≤ 8 := by rw [← hv1]; exact own_n3 p1
  have n2 := own_n3a n1
  have n3 := own_n3b n1
  have n4 := own_n3c n1
  refine own_go (B := s₁.setTop (mkF m 15 #[.val (.int p1), .val (.long p2), .second, .val (.int p3), .val (.int p4), .val (.int v1), .unset, .unset, .unset, .unset, .unset, .unset] [(.int ((p3 &&& (2147483647 : Int32)) % v1))])) (fun tgt cont => ?_) ?_
  · refine XS.iloadN X0.here hx rfl (hb hby at_8) rfl ?_
    refine Stand.ldcI X0 hx hown (mvT hZ (hw _ (List.mem_of_getElem? (i := 0) rfl))) rfl (hb hby at_9) ?_
    refine XS.iand X0.here hx rfl (hb hby at_11) rfl ?_
    refine XS.iload X0.here hx rfl (hb hby at_12) rfl ?_
    refine iremM X0 hx rfl (hb hby at_14) rfl n4 ?_
    exact cont
  generalize hv2 : ((p3 &&& (2147483647 : Int32)) % v1) = v2
  refine own_go (B := s₁.setTop (mkF m 25 #[.val (.int p1), .val (.long p2), .second, .val (.int p3), .val (.int p4), .val (.int v1), .val (.int v2), .unset, .unset, .unset, .unset, .unset] [(.int ((p4 &&& (2147483647 : Int32)) % (9 : Int32)))])) (fun tgt cont => ?_) ?_
  · refine XS.istore X0.here hx rfl (hb hby at_15) rfl (l' := #[.val (.int p1), .val (.long p2), .second, .val (.int p3), .val (.int p4), .val (.int v1), .val (.int v2), .unset, .unset, .unset, .unset, .unset]) rfl ?_
    refine XS.iload X0.here hx rfl (hb hby at_17) rfl ?_
    refine Stand.ldcI X0 hx hown (mvT hZ (hw _ (List.mem_of_getElem? (i := 0) rfl))) rfl (hb hby at_19) ?_
    refine XS.iand X0.here hx rfl (hb hby at_21) rfl ?_
    refine XT.bipushV X0.here hx rfl (9 : Int32) (hb hby at_22) rfl ?_
    refine iremM X0 hx rfl (hb hby at_24) rfl (by decide) ?_
    exact cont
  generalize hv3 : ((p4 &&& (2147483647 : Int32)) % (9 : Int32)) = v3
  refine own_go (B := s₁.setTop (mkF m 27 #[.val (.int p1), .val (.long p2), .second, .val (.int p3), .val (.int p4), .val (.int v1), .val (.int v2), .val (.int v3), .unset, .unset, .unset, .unset] [])) (fun tgt cont => ?_) ?_
  · refine XS.istore X0.here hx rfl (hb hby at_25) rfl (l' := #[.val (.int p1), .val (.long p2), .second, .val (.int p3), .val (.int p4), .val (.int v1), .val (.int v2), .val (.int v3), .unset, .unset, .unset, .unset]) rfl ?_
    exact cont
  have w1 : own_be v2 v1 := by rw [← hv2]; exact own_w3 n1
  have k1 : 0 ≤ v3.toInt ∧ v3.toInt ≤ 8 := by rw [← hv3]; exact own_k3 p4
  obtain ⟨T4, h4, X4, e4, E4, A4, D4, -, st4⟩ := newO X0 hx hZ hown (hw _ (List.mem_of_getElem? (i := 1) rfl)) (hw _ (List.mem_of_getElem? (i := 2) rfl)) (hw _ (List.mem_of_getElem? (i := 3) rfl)) e0 (g := (mkF m 27 #[.val (.int p1), .val (.long p2), .second, .val (.int p3), .val (.int p4), .val (.int v1), .val (.int v2), .val (.int v3), .unset, .unset, .unset, .unset] [])) rfl (hb hby at_27) (by decide) (by decide)
  obtain ⟨b4, g4⟩ : ∃ z, z = h0.size := ⟨_, rfl⟩
  rw [← g4] at A4 D4 st4
  have g_b4 : n0 ≤ b4 := Nat.le_trans Z0 (Nat.le_of_eq g4.symm)
  have sz_b4 : h0.size ≤ b4 := Nat.le_trans (Keep.refl h0 []).1 (Nat.le_of_eq g4.symm)
  have kk4 : Keep h0 h4 [] := (Keep.refl h0 []).ext E4
  have zp4 : n0 ≤ h4.size := Nat.le_trans Z0 kk4.1
  have F_ends_b4 : Fld Z h4 b4 "com/example/cyclecut/cyclecut/graph/Graph$Builder" "ends" "[I" .null := D4 (Or.inl (hw _ (List.mem_of_getElem? (i := 12) rfl))) (ty := (.array .int)) (by decide)
  have F_vertexCount_b4 : Fld Z h4 b4 "com/example/cyclecut/cyclecut/graph/Graph$Builder" "vertexCount" "I" (.int (0 : Int32)) := D4 (Or.inr (hw _ (List.mem_of_getElem? (i := 14) rfl))) (ty := .int) (by decide)
  have F_degree_b4 : Fld Z h4 b4 "com/example/cyclecut/cyclecut/graph/Graph$Builder" "degree" "[I" .null := D4 (Or.inr (hw _ (List.mem_of_getElem? (i := 16) rfl))) (ty := (.array .int)) (by decide)
  have F_edgeCount_b4 : Fld Z h4 b4 "com/example/cyclecut/cyclecut/graph/Graph$Builder" "edgeCount" "I" (.int (0 : Int32)) := D4 (Or.inl (hw _ (List.mem_of_getElem? (i := 36) rfl))) (ty := .int) (by decide)
  refine own_go (fun tgt cont => st4 tgt cont) ?_
  show own_Go p e below s (Q0 n0) room_1.cells room_1.slots (T4.setTop (mkF m 30 #[.val (.int p1), .val (.long p2), .second, .val (.int p3), .val (.int p4), .val (.int v1), .val (.int v2), .val (.int v3), .unset, .unset, .unset, .unset] [(.ref b4)]))
  refine own_go (B := T4.setTop (mkF m 33 #[.val (.int p1), .val (.long p2), .second, .val (.int p3), .val (.int p4), .val (.int v1), .val (.int v2), .val (.int v3), .unset, .unset, .unset, .unset] [(.int v1), (.ref b4), (.ref b4)])) (fun tgt cont => ?_) ?_
  · refine XS.dup X4.here hx rfl (hb hby at_30) rfl rfl ?_
    refine XS.iload X4.here hx rfl (hb hby at_31) rfl ?_
    exact cont
  -- pc 33: Graph$Builder.<init>
  obtain ⟨_, _, ⟨T5, L5, k5, n5⟩, -, X5, ⟨Lc5, hQ5, l5, y5, z5⟩, st5⟩ := X4.specialBack hx (y := (⟨"com/example/cyclecut/cyclecut/graph/Graph$Builder", "<init>", "(I)V"⟩ : MethodName)) rfl hown (mvT hZ (hw _ (List.mem_of_getElem? (i := 4) rfl))) (mvT hZ (hw _ (List.mem_of_getElem? (i := 5) rfl))) (mvT hZ (hw _ (List.mem_of_getElem? (i := 6) rfl))) (by decide) (backOf (W := 1) (rm1 l Z a0 hw [] b4 v1 h4 n0 zp4 A4 F_vertexCount_b4 F_degree_b4 F_ends_b4 F_edgeCount_b4 g_b4 n2 n3) hZ (hw _ (List.mem_of_getElem? (i := 6) rfl)) (hw _ (List.mem_of_getElem? (i := 3) rfl)) (by decide) (by decide)) (g := (mkF m 33 #[.val (.int p1), .val (.long p2), .second, .val (.int p3), .val (.int p4), .val (.int v1), .val (.int v2), .val (.int v3), .unset, .unset, .unset, .unset] [(.int v1), (.ref b4), (.ref b4)])) rfl (by rw [hml]; rfl) (Steps.refl _) (a := b4) (argsL := [(.int v1)]) (rest := [(.ref b4)]) (lenOf own_pd7 rfl) rfl (by show 2 * 0 + _ ≤ _; exact Nat.le_of_eq rfl) (hb hby at_33) (fun _ _ => ⟨rfl, e4, (by decide : 0 + 1 + 2 ≤ _), (by decide : 0 + 4 + 24 ≤ _)⟩)
  dsimp only [Pt.U, Pt.locs, Pt.cells, Pt.slots] at X5 l5 y5 z5 st5 hQ5
  subst y5 z5
  obtain ⟨b5_0, b5_1, rfl, N5q, K5, ex5_0, fa5_0, fa5_1, fa5_2, fa5_3, gb5_0, ab5_0, eb5_0, gb5_1, ab5_1, eb5_1, ne_b5_0_b5_1⟩ := hQ5
  have N5 : Fr n0 L5 := by rw [l5]; exact Fr.app N0 N5q
  have g_b5_0 : n0 ≤ b5_0 := Nat.le_trans zp4 gb5_0
  have sz_b5_0 : h0.size ≤ b5_0 := Nat.le_trans kk4.1 gb5_0
  have ne_b4_b5_0 : b4 ≠ b5_0 := Nat.ne_of_lt (Nat.lt_of_lt_of_le A4.lt gb5_0)
  have g_b5_1 : n0 ≤ b5_1 := Nat.le_trans zp4 gb5_1
  have sz_b5_1 : h0.size ≤ b5_1 := Nat.le_trans kk4.1 gb5_1
  have ne_b4_b5_1 : b4 ≠ b5_1 := Nat.ne_of_lt (Nat.lt_of_lt_of_le A4.lt gb5_1)
  have kk5 : Keep h0 T5.heap [] := kk4.trans K5 (allS (Or.inr sz_b4) all0)
  have zp5 : n0 ≤ T5.heap.size := Nat.le_trans Z0 kk5.1
  generalize hw6 : (own_bi_degree v1) = w6 at ab5_0
  generalize hw7 : own_bi_ends = w7 at ab5_1
  refine own_go (fun tgt cont => st5.trans cont) ?_
  show own_Go p e below s (Q0 n0) room_1.cells room_1.slots (T5.setTop (mkF m 36 #[.val (.int p1), .val (.long p2), .second, .val (.int p3), .val (.int p4), .val (.int v1), .val (.int v2), .val (.int v3), .unset, .unset, .unset, .unset] [(.ref b4)]))
  have DG0 : own_DG [] w6 v1.toNatClampNeg := by rw [← hw6]; exact own_DG0 _
  have al8 : own_IA Z T5.heap b5_1 [(0 : Int32), (0 : Int32), (0 : Int32), (0 : Int32), (0 : Int32), (0 : Int32), (0 : Int32), (0 : Int32), (0 : Int32), (0 : Int32), (0 : Int32), (0 : Int32), (0 : Int32), (0 : Int32), (0 : Int32), (0 : Int32)] := ab5_1.cong (hw7.symm.trans rfl)
  refine own_go (B := T5.setTop (mkF m 49 #[.val (.int p1), .val (.long p2), .second, .val (.int p3), .val (.int p4), .val (.int v1), .val (.int v2), .val (.int v3), .val (.ref b4), .val (.int (1 : Int32)), .unset, .unset] [(.int v1), (.int (0 : Int32)), (.long p2), (.ref b4), (.int (1 : Int32))])) (fun tgt cont => ?_) ?_
  · refine XS.astore X5.here hx rfl (hb hby at_36) rfl rfl (l' := #[.val (.int p1), .val (.long p2), .second, .val (.int p3), .val (.int p4), .val (.int v1), .val (.int v2), .val (.int v3), .val (.ref b4), .unset, .unset, .unset]) rfl ?_
    refine XT.iconstV X5.here hx rfl (1 : Int32) (hb hby at_38) rfl ?_
    refine XS.istore X5.here hx rfl (hb hby at_39) rfl (l' := #[.val (.int p1), .val (.long p2), .second, .val (.int p3), .val (.int p4), .val (.int v1), .val (.int v2), .val (.int v3), .val (.ref b4), .val (.int (1 : Int32)), .unset, .unset]) rfl ?_
    refine XS.iload X5.here hx rfl (hb hby at_41) rfl ?_
    refine XS.aload X5.here hx rfl (hb hby at_43) rfl rfl ?_
    refine XS.lloadN X5.here hx rfl (hb hby at_45) rfl ?_
    refine XT.iconstV X5.here hx rfl (0 : Int32) (hb hby at_46) rfl ?_
    refine XS.iload X5.here hx rfl (hb hby at_47) rfl ?_
    exact cont
  -- pc 49: BuilderAddEdgePinLaw.end
  obtain ⟨_, _, ⟨T9, L9, k9, n9⟩, -, X9, ⟨Lc9, hQ9, l9, y9, z9⟩, st9⟩ := Jvm.LawKit.callS X5 hx (y := (⟨"com/example/cyclecut/cyclecut/graph/BuilderAddEdgePinLaw", "end", "(JII)I"⟩ : MethodName)) hown (mvT hZ (hw _ (List.mem_of_getElem? (i := 17) rfl))) (mvT hZ (hw _ (List.mem_of_getElem? (i := 18) rfl))) (mvT hZ (hw _ (List.mem_of_getElem? (i := 19) rfl))) (mvT hZ (hw _ (List.mem_of_getElem? (i := 20) rfl))) (by decide) (backOf (W := 2) (rm3 l Z a0 hw [] p2 (0 : Int32) v1 T5.heap n0 zp5 n4) hZ (hw _ (List.mem_of_getElem? (i := 20) rfl)) (hw _ (List.mem_of_getElem? (i := 19) rfl)) (by decide) (by decide)) (g := (mkF m 49 #[.val (.int p1), .val (.long p2), .second, .val (.int p3), .val (.int p4), .val (.int v1), .val (.int v2), .val (.int v3), .val (.ref b4), .val (.int (1 : Int32)), .unset, .unset] [(.int v1), (.int (0 : Int32)), (.long p2), (.ref b4), (.int (1 : Int32))])) rfl (by rw [hml]; rfl) (argsL := [(.long p2), (.int (0 : Int32)), (.int v1)]) (rest := [(.ref b4), (.int (1 : Int32))]) (lenOf own_pd6 rfl) rfl (by show 2 * 0 + _ ≤ _; exact Nat.le_of_eq rfl) (hb hby at_49) (fun _ _ => ⟨rfl, rfl, (by decide : 0 + 1 + 2 + 0 ≤ _), (by decide : 0 + 4 + 24 + 0 ≤ _)⟩)
  dsimp only [Pt.U, Pt.locs, Pt.cells, Pt.slots] at X9 l9 y9 z9 st9 hQ9
  subst y9 z9
  obtain ⟨rfl, N9q, e9⟩ := hQ9
  have N9 : Fr n0 L9 := by rw [l9]; exact Fr.app N5 N9q
  refine own_go (fun tgt cont => st9 tgt cont) ?_
  show own_Go p e below s (Q0 n0) room_1.cells room_1.slots (T9.setTop (mkF m 52 #[.val (.int p1), .val (.long p2), .second, .val (.int p3), .val (.int p4), .val (.int v1), .val (.int v2), .val (.int v3), .val (.ref b4), .val (.int (1 : Int32)), .unset, .unset] [(.int (own_end_ p2 (0 : Int32) v1)), (.ref b4), (.int (1 : Int32))]))
  generalize hr10 : (own_end_ p2 (0 : Int32) v1) = r10
  refine own_go (B := T9.setTop (mkF m 56 #[.val (.int p1), .val (.long p2), .second, .val (.int p3), .val (.int p4), .val (.int v1), .val (.int v2), .val (.int v3), .val (.ref b4), .val (.int (1 : Int32)), .unset, .unset] [(.int v1), (.int (1 : Int32)), (.long p2), (.int r10), (.ref b4), (.int (1 : Int32))])) (fun tgt cont => ?_) ?_
  · refine XS.lloadN X9.here hx rfl (hb hby at_52) rfl ?_
    refine XT.iconstV X9.here hx rfl (1 : Int32) (hb hby at_53) rfl ?_
    refine XS.iload X9.here hx rfl (hb hby at_54) rfl ?_
    exact cont
  -- pc 56: BuilderAddEdgePinLaw.end
  obtain ⟨_, _, ⟨T11, L11, k11, n11⟩, -, X11, ⟨Lc11, hQ11, l11, y11, z11⟩, st11⟩ := Jvm.LawKit.callS X9 hx (y := (⟨"com/example/cyclecut/cyclecut/graph/BuilderAddEdgePinLaw", "end", "(JII)I"⟩ : MethodName)) hown (mvT hZ (hw _ (List.mem_of_getElem? (i := 17) rfl))) (mvT hZ (hw _ (List.mem_of_getElem? (i := 18) rfl))) (mvT hZ (hw _ (List.mem_of_getElem? (i := 19) rfl))) (mvT hZ (hw _ (List.mem_of_getElem? (i := 20) rfl))) (by decide) (backOf (W := 3) (rm3 l Z a0 hw [] p2 (1 : Int32) v1 T5.heap n0 zp5 n4) hZ (hw _ (List.mem_of_getElem? (i := 20) rfl)) (hw _ (List.mem_of_getElem? (i := 19) rfl)) (by decide) (by decide)) (g := (mkF m 56 #[.val (.int p1), .val (.long p2), .second, .val (.int p3), .val (.int p4), .val (.int v1), .val (.int v2), .val (.int v3), .val (.ref b4), .val (.int (1 : Int32)), .unset, .unset] [(.int v1), (.int (1 : Int32)), (.long p2), (.int r10), (.ref b4), (.int (1 : Int32))])) rfl (by rw [hml]; rfl) (argsL := [(.long p2), (.int (1 : Int32)), (.int v1)]) (rest := [(.int r10), (.ref b4), (.int (1 : Int32))]) (lenOf own_pd6 rfl) rfl (by show 2 * 0 + _ ≤ _; exact Nat.le_of_eq rfl) (hb hby at_56) (fun _ _ => ⟨rfl, e9, (by decide : 0 + 1 + 2 + 0 + 0 ≤ _), (by decide : 0 + 4 + 24 + 0 + 0 ≤ _)⟩)
  dsimp only [Pt.U, Pt.locs, Pt.cells, Pt.slots] at X11 l11 y11 z11 st11 hQ11
  subst y11 z11
  obtain ⟨rfl, N11q, e11⟩ := hQ11
  have N11 : Fr n0 L11 := by rw [l11]; exact Fr.app N9 N11q
  refine own_go (fun tgt cont => st11 tgt cont) ?_
  show own_Go p e below s (Q0 n0) room_1.cells room_1.slots (T11.setTop (mkF m 59 #[.val (.int p1), .val (.long p2), .second, .val (.int p3), .val (.int p4), .val (.int v1), .val (.int v2), .val (.int v3), .val (.ref b4), .val (.int (1 : Int32)), .unset, .unset] [(.int (own_end_ p2 (1 : Int32) v1)), (.int r10), (.ref b4), (.int (1 : Int32))]))
  generalize hr12 : (own_end_ p2 (1 : Int32) v1) = r12
  have B_r10 := own_eB n1 hr10
  have B_r12 := own_eB n1 hr12
  -- pc 59: Graph$Builder.addEdge
  obtain ⟨cq13, kq13, qa13, qb13, qc13⟩ := isOf hZ e11 ex5_0
  obtain ⟨_, _, ⟨T13, L13, k13, n13⟩, -, X13, ⟨Lc13, hQ13, l13, y13, z13⟩, st13⟩ := X11.virtualBack hx (y := (⟨"com/example/cyclecut/cyclecut/graph/Graph$Builder", "addEdge", "(II)I"⟩ : MethodName)) (z := (⟨"com/example/cyclecut/cyclecut/graph/Graph$Builder", "addEdge", "(II)I"⟩ : MethodName)) hown (mvT hZ (hw _ (List.mem_of_getElem? (i := 22) rfl))) (mvT hZ (hw _ (List.mem_of_getElem? (i := 23) rfl))) (notFace_of_selects (args := #[]) (mvT hZ (hw _ (List.mem_of_getElem? (i := 25) rfl)))) (mvT hZ (hw _ (List.mem_of_getElem? (i := 25) rfl))) (mvT hZ (hw _ (List.mem_of_getElem? (i := 24) rfl))) (by decide) (backOf (W := 1) (rm4_N l Z a0 hw [] b4 r10 r12 v1 b5_0 b5_1 (0 : Int32) w6 ([(0 : Int32), (0 : Int32), (0 : Int32), (0 : Int32), (0 : Int32), (0 : Int32), (0 : Int32), (0 : Int32), (0 : Int32), (0 : Int32), (0 : Int32), (0 : Int32), (0 : Int32), (0 : Int32), (0 : Int32), (0 : Int32)]) T5.heap n0 zp5 ex5_0 fa5_0 fa5_1 fa5_2 fa5_3 g_b4 ab5_0 g_b5_0 al8 g_b5_1 ne_b5_0_b5_1 B_r10.1 B_r10.2.1 B_r12.1 B_r12.2.1 (own_hg0 rfl) (own_c1_0 rfl) (own_c2_0 rfl) (own_dB DG0 B_r10) (own_dB DG0 B_r12)) hZ (hw _ (List.mem_of_getElem? (i := 26) rfl)) (hw _ (List.mem_of_getElem? (i := 3) rfl)) (by decide) (by decide)) qa13 qc13 (g := (mkF m 59 #[.val (.int p1), .val (.long p2), .second, .val (.int p3), .val (.int p4), .val (.int v1), .val (.int v2), .val (.int v3), .val (.ref b4), .val (.int (1 : Int32)), .unset, .unset] [(.int r12), (.int r10), (.ref b4), (.int (1 : Int32))])) rfl (by rw [hml]; rfl) (Steps.refl _) (argsL := [(.int r10), (.int r12)]) (rest := [(.int (1 : Int32))]) (lenOf own_pd1 rfl) rfl (by show 2 * 0 + _ ≤ _; exact Nat.le_of_eq rfl) (hb hby at_59) (fun _ _ => ⟨rfl, e11, (by decide : 0 + 1 + 2 + 0 + 0 + 0 ≤ _), (by decide : 0 + 4 + 24 + 0 + 0 + 0 ≤ _)⟩)
  dsimp only [Pt.U, Pt.locs, Pt.cells, Pt.slots] at X13 l13 y13 z13 st13 hQ13
  subst y13 z13
  obtain ⟨rfl, N13q, K13, ex13_0, fa13_0, fa13_1, fa13_2, fa13_3, fa13_4, fa13_5⟩ := hQ13
  have N13 : Fr n0 L13 := by rw [l13]; exact Fr.app N11 N13q
  have kk13 : Keep h0 T13.heap [] := kk5.trans K13 (allS (Or.inr sz_b4) (allS (Or.inr sz_b5_0) (allS (Or.inr sz_b5_1) all0)))
  have zp13 : n0 ≤ T13.heap.size := Nat.le_trans Z0 kk13.1
  generalize hw14 : (own_ae_edgeCount (0 : Int32)) = w14 at fa13_3
  generalize hw15 : (own_ae_ds r10 r12 w6) = w15 at fa13_4
  generalize hw16 : (own_ae_es r10 r12 (0 : Int32) [(0 : Int32), (0 : Int32), (0 : Int32), (0 : Int32), (0 : Int32), (0 : Int32), (0 : Int32), (0 : Int32), (0 : Int32), (0 : Int32), (0 : Int32), (0 : Int32), (0 : Int32), (0 : Int32), (0 : Int32), (0 : Int32)]) = w16 at fa13_5
  refine own_go (fun tgt cont => st13.trans cont) ?_
  show own_Go p e below s (Q0 n0) room_1.cells room_1.slots (T13.setTop (mkF m 62 #[.val (.int p1), .val (.long p2), .second, .val (.int p3), .val (.int p4), .val (.int v1), .val (.int v2), .val (.int v3), .val (.ref b4), .val (.int (1 : Int32)), .unset, .unset] [(.int (0 : Int32)), (.int (1 : Int32))]))
  obtain rfl : w14 = (1 : Int32) := hw14.symm.trans own_ec0
  have DG1 : own_DG [r10, r12] w15 v1.toNatClampNeg := own_DGa DG0 B_r10 B_r12 hw15
  have al17 : own_IA Z T13.heap b5_1 [r10, r12, (0 : Int32), (0 : Int32), (0 : Int32), (0 : Int32), (0 : Int32), (0 : Int32), (0 : Int32), (0 : Int32), (0 : Int32), (0 : Int32), (0 : Int32), (0 : Int32), (0 : Int32), (0 : Int32)] := fa13_5.cong (hw16.symm.trans (own_es0 ..))
  refine own_go (B := T13.setTop (mkF m 81 #[.val (.int p1), .val (.long p2), .second, .val (.int p3), .val (.int p4), .val (.int v1), .val (.int v2), .val (.int v3), .val (.ref b4), .val (.int (1 : Int32)), .unset, .unset] [(.int v1), (.int (2 : Int32)), (.long p2), (.ref b4), (.int (1 : Int32))])) (fun tgt cont => ?_) ?_
  · refine XS.ifNo X13.here hx rfl (hb hby at_62) rfl (XT.i0_ne_f (by first | decide | exact (show (0 : Int32) = 0 from by decide))) ?_
    refine XT.iconstV X13.here hx rfl (1 : Int32) (hb hby at_65) rfl ?_
    refine XS.goto X13.here hx rfl (pc0 := 66) (pc' := 70) rfl (hb hby at_66) (by decide) (by decide) ?_
    refine XS.iand X13.here hx rfl (hb hby at_70) rfl ?_
    refine XS.istore X13.here hx rfl (hb hby at_71) rfl (l' := #[.val (.int p1), .val (.long p2), .second, .val (.int p3), .val (.int p4), .val (.int v1), .val (.int v2), .val (.int v3), .val (.ref b4), .val (.int (1 : Int32)), .unset, .unset]) rfl ?_
    refine XS.iload X13.here hx rfl (hb hby at_73) rfl ?_
    refine XS.aload X13.here hx rfl (hb hby at_75) rfl rfl ?_
    refine XS.lloadN X13.here hx rfl (hb hby at_77) rfl ?_
    refine XT.iconstV X13.here hx rfl (2 : Int32) (hb hby at_78) rfl ?_
    refine XS.iload X13.here hx rfl (hb hby at_79) rfl ?_
    exact cont
  -- pc 81: BuilderAddEdgePinLaw.end
  obtain ⟨_, _, ⟨T18, L18, k18, n18⟩, -, X18, ⟨Lc18, hQ18, l18, y18, z18⟩, st18⟩ := Jvm.LawKit.callS X13 hx (y := (⟨"com/example/cyclecut/cyclecut/graph/BuilderAddEdgePinLaw", "end", "(JII)I"⟩ : MethodName)) hown (mvT hZ (hw _ (List.mem_of_getElem? (i := 17) rfl))) (mvT hZ (hw _ (List.mem_of_getElem? (i := 18) rfl))) (mvT hZ (hw _ (List.mem_of_getElem? (i := 19) rfl))) (mvT hZ (hw _ (List.mem_of_getElem? (i := 20) rfl))) (by decide) (backOf (W := 2) (rm3 l Z a0 hw [] p2 (2 : Int32) v1 T13.heap n0 zp13 n4) hZ (hw _ (List.mem_of_getElem? (i := 20) rfl)) (hw _ (List.mem_of_getElem? (i := 19) rfl)) (by decide) (by decide)) (g := (mkF m 81 #[.val (.int p1), .val (.long p2), .second, .val (.int p3), .val (.int p4), .val (.int v1), .val (.int v2), .val (.int v3), .val (.ref b4), .val (.int (1 : Int32)), .unset, .unset] [(.int v1), (.int (2 : Int32)), (.long p2), (.ref b4), (.int (1 : Int32))])) rfl (by rw [hml]; rfl) (argsL := [(.long p2), (.int (2 : Int32)), (.int v1)]) (rest := [(.ref b4), (.int (1 : Int32))]) (lenOf own_pd6 rfl) rfl (by show 2 * 0 + _ ≤ _; exact Nat.le_of_eq rfl) (hb hby at_81) (fun _ _ => ⟨rfl, rfl, (by decide : 0 + 1 + 2 + 0 + 0 + 0 + 0 ≤ _), (by decide : 0 + 4 + 24 + 0 + 0 + 0 + 0 ≤ _)⟩)
  dsimp only [Pt.U, Pt.locs, Pt.cells, Pt.slots] at X18 l18 y18 z18 st18 hQ18
  subst y18 z18
  obtain ⟨rfl, N18q, e18⟩ := hQ18
  have N18 : Fr n0 L18 := by rw [l18]; exact Fr.app N13 N18q
  refine own_go (fun tgt cont => st18 tgt cont) ?_
  show own_Go p e below s (Q0 n0) room_1.cells room_1.slots (T18.setTop (mkF m 84 #[.val (.int p1), .val (.long p2), .second, .val (.int p3), .val (.int p4), .val (.int v1), .val (.int v2), .val (.int v3), .val (.ref b4), .val (.int (1 : Int32)), .unset, .unset] [(.int (own_end_ p2 (2 : Int32) v1)), (.ref b4), (.int (1 : Int32))]))
  generalize hr19 : (own_end_ p2 (2 : Int32) v1) = r19
  refine own_go (B := T18.setTop (mkF m 88 #[.val (.int p1), .val (.long p2), .second, .val (.int p3), .val (.int p4), .val (.int v1), .val (.int v2), .val (.int v3), .val (.ref b4), .val (.int (1 : Int32)), .unset, .unset] [(.int v1), (.int (3 : Int32)), (.long p2), (.int r19), (.ref b4), (.int (1 : Int32))])) (fun tgt cont => ?_) ?_
  · refine XS.lloadN X18.here hx rfl (hb hby at_84) rfl ?_
    refine XT.iconstV X18.here hx rfl (3 : Int32) (hb hby at_85) rfl ?_
    refine XS.iload X18.here hx rfl (hb hby at_86) rfl ?_
    exact cont
  -- pc 88: BuilderAddEdgePinLaw.end
  obtain ⟨_, _, ⟨T20, L20, k20, n20⟩, -, X20, ⟨Lc20, hQ20, l20, y20, z20⟩, st20⟩ := Jvm.LawKit.callS X18 hx (y := (⟨"com/example/cyclecut/cyclecut/graph/BuilderAddEdgePinLaw", "end", "(JII)I"⟩ : MethodName)) hown (mvT hZ (hw _ (List.mem_of_getElem? (i := 17) rfl))) (mvT hZ (hw _ (List.mem_of_getElem? (i := 18) rfl))) (mvT hZ (hw _ (List.mem_of_getElem? (i := 19) rfl))) (mvT hZ (hw _ (List.mem_of_getElem? (i := 20) rfl))) (by decide) (backOf (W := 3) (rm3 l Z a0 hw [] p2 (3 : Int32) v1 T13.heap n0 zp13 n4) hZ (hw _ (List.mem_of_getElem? (i := 20) rfl)) (hw _ (List.mem_of_getElem? (i := 19) rfl)) (by decide) (by decide)) (g := (mkF m 88 #[.val (.int p1), .val (.long p2), .second, .val (.int p3), .val (.int p4), .val (.int v1), .val (.int v2), .val (.int v3), .val (.ref b4), .val (.int (1 : Int32)), .unset, .unset] [(.int v1), (.int (3 : Int32)), (.long p2), (.int r19), (.ref b4), (.int (1 : Int32))])) rfl (by rw [hml]; rfl) (argsL := [(.long p2), (.int (3 : Int32)), (.int v1)]) (rest := [(.int r19), (.ref b4), (.int (1 : Int32))]) (lenOf own_pd6 rfl) rfl (by show 2 * 0 + _ ≤ _; exact Nat.le_of_eq rfl) (hb hby at_88) (fun _ _ => ⟨rfl, e18, (by decide : 0 + 1 + 2 + 0 + 0 + 0 + 0 + 0 ≤ _), (by decide : 0 + 4 + 24 + 0 + 0 + 0 + 0 + 0 ≤ _)⟩)
  dsimp only [Pt.U, Pt.locs, Pt.cells, Pt.slots] at X20 l20 y20 z20 st20 hQ20
  subst y20 z20
  obtain ⟨rfl, N20q, e20⟩ := hQ20
  have N20 : Fr n0 L20 := by rw [l20]; exact Fr.app N18 N20q
  refine own_go (fun tgt cont => st20 tgt cont) ?_
  show own_Go p e below s (Q0 n0) room_1.cells room_1.slots (T20.setTop (mkF m 91 #[.val (.int p1), .val (.long p2), .second, .val (.int p3), .val (.int p4), .val (.int v1), .val (.int v2), .val (.int v3), .val (.ref b4), .val (.int (1 : Int32)), .unset, .unset] [(.int (own_end_ p2 (3 : Int32) v1)), (.int r19), (.ref b4), (.int (1 : Int32))]))
  generalize hr21 : (own_end_ p2 (3 : Int32) v1) = r21
  have B_r19 := own_eB n1 hr19
  have B_r21 := own_eB n1 hr21
  -- pc 91: Graph$Builder.addEdge
  obtain ⟨cq22, kq22, qa22, qb22, qc22⟩ := isOf hZ e20 ex13_0
  obtain ⟨_, _, ⟨T22, L22, k22, n22⟩, -, X22, ⟨Lc22, hQ22, l22, y22, z22⟩, st22⟩ := X20.virtualBack hx (y := (⟨"com/example/cyclecut/cyclecut/graph/Graph$Builder", "addEdge", "(II)I"⟩ : MethodName)) (z := (⟨"com/example/cyclecut/cyclecut/graph/Graph$Builder", "addEdge", "(II)I"⟩ : MethodName)) hown (mvT hZ (hw _ (List.mem_of_getElem? (i := 22) rfl))) (mvT hZ (hw _ (List.mem_of_getElem? (i := 23) rfl))) (notFace_of_selects (args := #[]) (mvT hZ (hw _ (List.mem_of_getElem? (i := 25) rfl)))) (mvT hZ (hw _ (List.mem_of_getElem? (i := 25) rfl))) (mvT hZ (hw _ (List.mem_of_getElem? (i := 24) rfl))) (by decide) (backOf (W := 1) (rm4_N l Z a0 hw [] b4 r19 r21 v1 b5_0 b5_1 (1 : Int32) w15 ([r10, r12, (0 : Int32), (0 : Int32), (0 : Int32), (0 : Int32), (0 : Int32), (0 : Int32), (0 : Int32), (0 : Int32), (0 : Int32), (0 : Int32), (0 : Int32), (0 : Int32), (0 : Int32), (0 : Int32)]) T13.heap n0 zp13 ex13_0 fa13_0 fa13_1 fa13_2 fa13_3 g_b4 fa13_4 g_b5_0 al17 g_b5_1 ne_b5_0_b5_1 B_r19.1 B_r19.2.1 B_r21.1 B_r21.2.1 (own_hg1 rfl) (own_c1_1 rfl) (own_c2_1 rfl) (own_dB DG1 B_r19) (own_dB DG1 B_r21)) hZ (hw _ (List.mem_of_getElem? (i := 26) rfl)) (hw _ (List.mem_of_getElem? (i := 3) rfl)) (by decide) (by decide)) qa22 qc22 (g := (mkF m 91 #[.val (.int p1), .val (.long p2), .second, .val (.int p3), .val (.int p4), .val (.int v1), .val (.int v2), .val (.int v3), .val (.ref b4), .val (.int (1 : Int32)), .unset, .unset] [(.int r21), (.int r19), (.ref b4), (.int (1 : Int32))])) rfl (by rw [hml]; rfl) (Steps.refl _) (argsL := [(.int r19), (.int r21)]) (rest := [(.int (1 : Int32))]) (lenOf own_pd1 rfl) rfl (by show 2 * 0 + _ ≤ _; exact Nat.le_of_eq rfl) (hb hby at_91) (fun _ _ => ⟨rfl, e20, (by decide : 0 + 1 + 2 + 0 + 0 + 0 + 0 + 0 + 0 ≤ _), (by decide : 0 + 4 + 24 + 0 + 0 + 0 + 0 + 0 + 0 ≤ _)⟩)
  dsimp only [Pt.U, Pt.locs, Pt.cells, Pt.slots] at X22 l22 y22 z22 st22 hQ22
  subst y22 z22
  obtain ⟨rfl, N22q, K22, ex22_0, fa22_0, fa22_1, fa22_2, fa22_3, fa22_4, fa22_5⟩ := hQ22
  have N22 : Fr n0 L22 := by rw [l22]; exact Fr.app N20 N22q
  have kk22 : Keep h0 T22.heap [] := kk13.trans K22 (allS (Or.inr sz_b4) (allS (Or.inr sz_b5_0) (allS (Or.inr sz_b5_1) all0)))
  have zp22 : n0 ≤ T22.heap.size := Nat.le_trans Z0 kk22.1
  generalize hw23 : (own_ae_edgeCount (1 : Int32)) = w23 at fa22_3
  generalize hw24 : (own_ae_ds r19 r21 w15) = w24 at fa22_4
  generalize hw25 : (own_ae_es r19 r21 (1 : Int32) [r10, r12, (0 : Int32), (0 : Int32), (0 : Int32), (0 : Int32), (0 : Int32), (0 : Int32), (0 : Int32), (0 : Int32), (0 : Int32), (0 : Int32), (0 : Int32), (0 : Int32), (0 : Int32), (0 : Int32)]) = w25 at fa22_5
  refine own_go (fun tgt cont => st22.trans cont) ?_
  show own_Go p e below s (Q0 n0) room_1.cells room_1.slots (T22.setTop (mkF m 94 #[.val (.int p1), .val (.long p2), .second, .val (.int p3), .val (.int p4), .val (.int v1), .val (.int v2), .val (.int v3), .val (.ref b4), .val (.int (1 : Int32)), .unset, .unset] [(.int (1 : Int32)), (.int (1 : Int32))]))
  obtain rfl : w23 = (2 : Int32) := hw23.symm.trans own_ec1
  have DG2 : own_DG [r10, r12, r19, r21] w24 v1.toNatClampNeg := own_DGa DG1 B_r19 B_r21 hw24
  have al26 : own_IA Z T22.heap b5_1 [r10, r12, r19, r21, (0 : Int32), (0 : Int32), (0 : Int32), (0 : Int32), (0 : Int32), (0 : Int32), (0 : Int32), (0 : Int32), (0 : Int32), (0 : Int32), (0 : Int32), (0 : Int32)] := fa22_5.cong (hw25.symm.trans (own_es1 ..))
  refine own_go (B := T22.setTop (mkF m 112 #[.val (.int p1), .val (.long p2), .second, .val (.int p3), .val (.int p4), .val (.int v1), .val (.int v2), .val (.int v3), .val (.ref b4), .val (.int (1 : Int32)), .unset, .unset] [(.int (4 : Int32)), (.long p2), (.ref b4), (.int (1 : Int32))])) (fun tgt cont => ?_) ?_
  · refine XT.iconstV X22.here hx rfl (1 : Int32) (hb hby at_94) rfl ?_
    refine XS.icmpNo X22.here hx rfl (hb hby at_95) rfl (XT.ii_ne_f (by first | decide | exact (show (1 : Int32) = (1 : Int32) from by decide))) ?_
    refine XT.iconstV X22.here hx rfl (1 : Int32) (hb hby at_98) rfl ?_
    refine XS.goto X22.here hx rfl (pc0 := 99) (pc' := 103) rfl (hb hby at_99) (by decide) (by decide) ?_
    refine XS.iand X22.here hx rfl (hb hby at_103) rfl ?_
    refine XS.istore X22.here hx rfl (hb hby at_104) rfl (l' := #[.val (.int p1), .val (.long p2), .second, .val (.int p3), .val (.int p4), .val (.int v1), .val (.int v2), .val (.int v3), .val (.ref b4), .val (.int (1 : Int32)), .unset, .unset]) rfl ?_
    refine XS.iload X22.here hx rfl (hb hby at_106) rfl ?_
    refine XS.aload X22.here hx rfl (hb hby at_108) rfl rfl ?_
    refine XS.lloadN X22.here hx rfl (hb hby at_110) rfl ?_
    refine XT.iconstV X22.here hx rfl (4 : Int32) (hb hby at_111) rfl ?_
    exact cont
  refine own_go (B := T22.setTop (mkF m 114 #[.val (.int p1), .val (.long p2), .second, .val (.int p3), .val (.int p4), .val (.int v1), .val (.int v2), .val (.int v3), .val (.ref b4), .val (.int (1 : Int32)), .unset, .unset] [(.int v1), (.int (4 : Int32)), (.long p2), (.ref b4), (.int (1 : Int32))])) (fun tgt cont => ?_) ?_
  · refine XS.iload X22.here hx rfl (hb hby at_112) rfl ?_
    exact cont
  -- pc 114: BuilderAddEdgePinLaw.end
  obtain ⟨_, _, ⟨T27, L27, k27, n27⟩, -, X27, ⟨Lc27, hQ27, l27, y27, z27⟩, st27⟩ := Jvm.LawKit.callS X22 hx (y := (⟨"com/example/cyclecut/cyclecut/graph/BuilderAddEdgePinLaw", "end", "(JII)I"⟩ : MethodName)) hown (mvT hZ (hw _ (List.mem_of_getElem? (i := 17) rfl))) (mvT hZ (hw _ (List.mem_of_getElem? (i := 18) rfl))) (mvT hZ (hw _ (List.mem_of_getElem? (i := 19) rfl))) (mvT hZ (hw _ (List.mem_of_getElem? (i := 20) rfl))) (by decide) (backOf (W := 2) (rm3 l Z a0 hw [] p2 (4 : Int32) v1 T22.heap n0 zp22 n4) hZ (hw _ (List.mem_of_getElem? (i := 20) rfl)) (hw _ (List.mem_of_getElem? (i := 19) rfl)) (by decide) (by decide)) (g := (mkF m 114 #[.val (.int p1), .val (.long p2), .second, .val (.int p3), .val (.int p4), .val (.int v1), .val (.int v2), .val (.int v3), .val (.ref b4), .val (.int (1 : Int32)), .unset, .unset] [(.int v1), (.int (4 : Int32)), (.long p2), (.ref b4), (.int (1 : Int32))])) rfl (by rw [hml]; rfl) (argsL := [(.long p2), (.int (4 : Int32)), (.int v1)]) (rest := [(.ref b4), (.int (1 : Int32))]) (lenOf own_pd6 rfl) rfl (by show 2 * 0 + _ ≤ _; exact Nat.le_of_eq rfl) (hb hby at_114) (fun _ _ => ⟨rfl, rfl, (by decide : 0 + 1 + 2 + 0 + 0 + 0 + 0 + 0 + 0 + 0 ≤ _), (by decide : 0 + 4 + 24 + 0 + 0 + 0 + 0 + 0 + 0 + 0 ≤ _)⟩)
  dsimp only [Pt.U, Pt.locs, Pt.cells, Pt.slots] at X27 l27 y27 z27 st27 hQ27
  subst y27 z27
  obtain ⟨rfl, N27q, e27⟩ := hQ27
  have N27 : Fr n0 L27 := by rw [l27]; exact Fr.app N22 N27q
  refine own_go (fun tgt cont => st27 tgt cont) ?_
  show own_Go p e below s (Q0 n0) room_1.cells room_1.slots (T27.setTop (mkF m 117 #[.val (.int p1), .val (.long p2), .second, .val (.int p3), .val (.int p4), .val (.int v1), .val (.int v2), .val (.int v3), .val (.ref b4), .val (.int (1 : Int32)), .unset, .unset] [(.int (own_end_ p2 (4 : Int32) v1)), (.ref b4), (.int (1 : Int32))]))
  generalize hr28 : (own_end_ p2 (4 : Int32) v1) = r28
  refine own_go (B := T27.setTop (mkF m 121 #[.val (.int p1), .val (.long p2), .second, .val (.int p3), .val (.int p4), .val (.int v1), .val (.int v2), .val (.int v3), .val (.ref b4), .val (.int (1 : Int32)), .unset, .unset] [(.int v1), (.int (5 : Int32)), (.long p2), (.int r28), (.ref b4), (.int (1 : Int32))])) (fun tgt cont => ?_) ?_
  · refine XS.lloadN X27.here hx rfl (hb hby at_117) rfl ?_
    refine XT.iconstV X27.here hx rfl (5 : Int32) (hb hby at_118) rfl ?_
    refine XS.iload X27.here hx rfl (hb hby at_119) rfl ?_
    exact cont
  -- pc 121: BuilderAddEdgePinLaw.end
  obtain ⟨_, _, ⟨T29, L29, k29, n29⟩, -, X29, ⟨Lc29, hQ29, l29, y29, z29⟩, st29⟩ := Jvm.LawKit.callS X27 hx (y := (⟨"com/example/cyclecut/cyclecut/graph/BuilderAddEdgePinLaw", "end", "(JII)I"⟩ : MethodName)) hown (mvT hZ (hw _ (List.mem_of_getElem? (i := 17) rfl))) (mvT hZ (hw _ (List.mem_of_getElem? (i := 18) rfl))) (mvT hZ (hw _ (List.mem_of_getElem? (i := 19) rfl))) (mvT hZ (hw _ (List.mem_of_getElem? (i := 20) rfl))) (by decide) (backOf (W := 3) (rm3 l Z a0 hw [] p2 (5 : Int32) v1 T22.heap n0 zp22 n4) hZ (hw _ (List.mem_of_getElem? (i := 20) rfl)) (hw _ (List.mem_of_getElem? (i := 19) rfl)) (by decide) (by decide)) (g := (mkF m 121 #[.val (.int p1), .val (.long p2), .second, .val (.int p3), .val (.int p4), .val (.int v1), .val (.int v2), .val (.int v3), .val (.ref b4), .val (.int (1 : Int32)), .unset, .unset] [(.int v1), (.int (5 : Int32)), (.long p2), (.int r28), (.ref b4), (.int (1 : Int32))])) rfl (by rw [hml]; rfl) (argsL := [(.long p2), (.int (5 : Int32)), (.int v1)]) (rest := [(.int r28), (.ref b4), (.int (1 : Int32))]) (lenOf own_pd6 rfl) rfl (by show 2 * 0 + _ ≤ _; exact Nat.le_of_eq rfl) (hb hby at_121) (fun _ _ => ⟨rfl, e27, (by decide : 0 + 1 + 2 + 0 + 0 + 0 + 0 + 0 + 0 + 0 + 0 ≤ _), (by decide : 0 + 4 + 24 + 0 + 0 + 0 + 0 + 0 + 0 + 0 + 0 ≤ _)⟩)
  dsimp only [Pt.U, Pt.locs, Pt.cells, Pt.slots] at X29 l29 y29 z29 st29 hQ29
  subst y29 z29
  obtain ⟨rfl, N29q, e29⟩ := hQ29
  have N29 : Fr n0 L29 := by rw [l29]; exact Fr.app N27 N29q
  refine own_go (fun tgt cont => st29 tgt cont) ?_
  show own_Go p e below s (Q0 n0) room_1.cells room_1.slots (T29.setTop (mkF m 124 #[.val (.int p1), .val (.long p2), .second, .val (.int p3), .val (.int p4), .val (.int v1), .val (.int v2), .val (.int v3), .val (.ref b4), .val (.int (1 : Int32)), .unset, .unset] [(.int (own_end_ p2 (5 : Int32) v1)), (.int r28), (.ref b4), (.int (1 : Int32))]))
  generalize hr30 : (own_end_ p2 (5 : Int32) v1) = r30
  have B_r28 := own_eB n1 hr28
  have B_r30 := own_eB n1 hr30
  -- pc 124: Graph$Builder.addEdge
  obtain ⟨cq31, kq31, qa31, qb31, qc31⟩ := isOf hZ e29 ex22_0
  obtain ⟨_, _, ⟨T31, L31, k31, n31⟩, -, X31, ⟨Lc31, hQ31, l31, y31, z31⟩, st31⟩ := X29.virtualBack hx (y := (⟨"com/example/cyclecut/cyclecut/graph/Graph$Builder", "addEdge", "(II)I"⟩ : MethodName)) (z := (⟨"com/example/cyclecut/cyclecut/graph/Graph$Builder", "addEdge", "(II)I"⟩ : MethodName)) hown (mvT hZ (hw _ (List.mem_of_getElem? (i := 22) rfl))) (mvT hZ (hw _ (List.mem_of_getElem? (i := 23) rfl))) (notFace_of_selects (args := #[]) (mvT hZ (hw _ (List.mem_of_getElem? (i := 25) rfl)))) (mvT hZ (hw _ (List.mem_of_getElem? (i := 25) rfl))) (mvT hZ (hw _ (List.mem_of_getElem? (i := 24) rfl))) (by decide) (backOf (W := 1) (rm4_N l Z a0 hw [] b4 r28 r30 v1 b5_0 b5_1 (2 : Int32) w24 ([r10, r12, r19, r21, (0 : Int32), (0 : Int32), (0 : Int32), (0 : Int32), (0 : Int32), (0 : Int32), (0 : Int32), (0 : Int32), (0 : Int32), (0 : Int32), (0 : Int32), (0 : Int32)]) T22.heap n0 zp22 ex22_0 fa22_0 fa22_1 fa22_2 fa22_3 g_b4 fa22_4 g_b5_0 al26 g_b5_1 ne_b5_0_b5_1 B_r28.1 B_r28.2.1 B_r30.1 B_r30.2.1 (own_hg2 rfl) (own_c1_2 rfl) (own_c2_2 rfl) (own_dB DG2 B_r28) (own_dB DG2 B_r30)) hZ (hw _ (List.mem_of_getElem? (i := 26) rfl)) (hw _ (List.mem_of_getElem? (i := 3) rfl)) (by decide) (by decide)) qa31 qc31 (g := (mkF m 124 #[.val (.int p1), .val (.long p2), .second, .val (.int p3), .val (.int p4), .val (.int v1), .val (.int v2), .val (.int v3), .val (.ref b4), .val (.int (1 : Int32)), .unset, .unset] [(.int r30), (.int r28), (.ref b4), (.int (1 : Int32))])) rfl (by rw [hml]; rfl) (Steps.refl _) (argsL := [(.int r28), (.int r30)]) (rest := [(.int (1 : Int32))]) (lenOf own_pd1 rfl) rfl (by show 2 * 0 + _ ≤ _; exact Nat.le_of_eq rfl) (hb hby at_124) (fun _ _ => ⟨rfl, e29, (by decide : 0 + 1 + 2 + 0 + 0 + 0 + 0 + 0 + 0 + 0 + 0 + 0 ≤ _), (by decide : 0 + 4 + 24 + 0 + 0 + 0 + 0 + 0 + 0 + 0 + 0 + 0 ≤ _)⟩)
  dsimp only [Pt.U, Pt.locs, Pt.cells, Pt.slots] at X31 l31 y31 z31 st31 hQ31
  subst y31 z31
  obtain ⟨rfl, N31q, K31, ex31_0, fa31_0, fa31_1, fa31_2, fa31_3, fa31_4, fa31_5⟩ := hQ31
  have N31 : Fr n0 L31 := by rw [l31]; exact Fr.app N29 N31q
  have kk31 : Keep h0 T31.heap [] := kk22.trans K31 (allS (Or.inr sz_b4) (allS (Or.inr sz_b5_0) (allS (Or.inr sz_b5_1) all0)))
  have zp31 : n0 ≤ T31.heap.size := Nat.le_trans Z0 kk31.1
  generalize hw32 : (own_ae_edgeCount (2 : Int32)) = w32 at fa31_3
  generalize hw33 : (own_ae_ds r28 r30 w24) = w33 at fa31_4
  generalize hw34 : (own_ae_es r28 r30 (2 : Int32) [r10, r12, r19, r21, (0 : Int32), (0 : Int32), (0 : Int32), (0 : Int32), (0 : Int32), (0 : Int32), (0 : Int32), (0 : Int32), (0 : Int32), (0 : Int32), (0 : Int32), (0 : Int32)]) = w34 at fa31_5
  refine own_go (fun tgt cont => st31.trans cont) ?_
  show own_Go p e below s (Q0 n0) room_1.cells room_1.slots (T31.setTop (mkF m 127 #[.val (.int p1), .val (.long p2), .second, .val (.int p3), .val (.int p4), .val (.int v1), .val (.int v2), .val (.int v3), .val (.ref b4), .val (.int (1 : Int32)), .unset, .unset] [(.int (2 : Int32)), (.int (1 : Int32))]))
  obtain rfl : w32 = (3 : Int32) := hw32.symm.trans own_ec2
  have DG3 : own_DG [r10, r12, r19, r21, r28, r30] w33 v1.toNatClampNeg := own_DGa DG2 B_r28 B_r30 hw33
  have al35 : own_IA Z T31.heap b5_1 [r10, r12, r19, r21, r28, r30, (0 : Int32), (0 : Int32), (0 : Int32), (0 : Int32), (0 : Int32), (0 : Int32), (0 : Int32), (0 : Int32), (0 : Int32), (0 : Int32)] := fa31_5.cong (hw34.symm.trans (own_es2 ..))
  refine own_go (B := T31.setTop (mkF m 146 #[.val (.int p1), .val (.long p2), .second, .val (.int p3), .val (.int p4), .val (.int v1), .val (.int v2), .val (.int v3), .val (.ref b4), .val (.int (1 : Int32)), .unset, .unset] [(.int (6 : Int32)), (.long p2), (.ref b4), (.int (1 : Int32))])) (fun tgt cont => ?_) ?_
  · refine XT.iconstV X31.here hx rfl (2 : Int32) (hb hby at_127) rfl ?_
    refine XS.icmpNo X31.here hx rfl (hb hby at_128) rfl (XT.ii_ne_f (by first | decide | exact (show (2 : Int32) = (2 : Int32) from by decide))) ?_
    refine XT.iconstV X31.here hx rfl (1 : Int32) (hb hby at_131) rfl ?_
    refine XS.goto X31.here hx rfl (pc0 := 132) (pc' := 136) rfl (hb hby at_132) (by decide) (by decide) ?_
    refine XS.iand X31.here hx rfl (hb hby at_136) rfl ?_
    refine XS.istore X31.here hx rfl (hb hby at_137) rfl (l' := #[.val (.int p1), .val (.long p2), .second, .val (.int p3), .val (.int p4), .val (.int v1), .val (.int v2), .val (.int v3), .val (.ref b4), .val (.int (1 : Int32)), .unset, .unset]) rfl ?_
    refine XS.iload X31.here hx rfl (hb hby at_139) rfl ?_
    refine XS.aload X31.here hx rfl (hb hby at_141) rfl rfl ?_
    refine XS.lloadN X31.here hx rfl (hb hby at_143) rfl ?_
    refine XT.bipushV X31.here hx rfl (6 : Int32) (hb hby at_144) rfl ?_
    exact cont
  refine own_go (B := T31.setTop (mkF m 148 #[.val (.int p1), .val (.long p2), .second, .val (.int p3), .val (.int p4), .val (.int v1), .val (.int v2), .val (.int v3), .val (.ref b4), .val (.int (1 : Int32)), .unset, .unset] [(.int v1), (.int (6 : Int32)), (.long p2), (.ref b4), (.int (1 : Int32))])) (fun tgt cont => ?_) ?_
  · refine XS.iload X31.here hx rfl (hb hby at_146) rfl ?_
    exact cont
  -- pc 148: BuilderAddEdgePinLaw.end
  obtain ⟨_, _, ⟨T36, L36, k36, n36⟩, -, X36, ⟨Lc36, hQ36, l36, y36, z36⟩, st36⟩ := Jvm.LawKit.callS X31 hx (y := (⟨"com/example/cyclecut/cyclecut/graph/BuilderAddEdgePinLaw", "end", "(JII)I"⟩ : MethodName)) hown (mvT hZ (hw _ (List.mem_of_getElem? (i := 17) rfl))) (mvT hZ (hw _ (List.mem_of_getElem? (i := 18) rfl))) (mvT hZ (hw _ (List.mem_of_getElem? (i := 19) rfl))) (mvT hZ (hw _ (List.mem_of_getElem? (i := 20) rfl))) (by decide) (backOf (W := 2) (rm3 l Z a0 hw [] p2 (6 : Int32) v1 T31.heap n0 zp31 n4) hZ (hw _ (List.mem_of_getElem? (i := 20) rfl)) (hw _ (List.mem_of_getElem? (i := 19) rfl)) (by decide) (by decide)) (g := (mkF m 148 #[.val (.int p1), .val (.long p2), .second, .val (.int p3), .val (.int p4), .val (.int v1), .val (.int v2), .val (.int v3), .val (.ref b4), .val (.int (1 : Int32)), .unset, .unset] [(.int v1), (.int (6 : Int32)), (.long p2), (.ref b4), (.int (1 : Int32))])) rfl (by rw [hml]; rfl) (argsL := [(.long p2), (.int (6 : Int32)), (.int v1)]) (rest := [(.ref b4), (.int (1 : Int32))]) (lenOf own_pd6 rfl) rfl (by show 2 * 0 + _ ≤ _; exact Nat.le_of_eq rfl) (hb hby at_148) (fun _ _ => ⟨rfl, rfl, (by decide : 0 + 1 + 2 + 0 + 0 + 0 + 0 + 0 + 0 + 0 + 0 + 0 + 0 ≤ _), (by decide : 0 + 4 + 24 + 0 + 0 + 0 + 0 + 0 + 0 + 0 + 0 + 0 + 0 ≤ _)⟩)
  dsimp only [Pt.U, Pt.locs, Pt.cells, Pt.slots] at X36 l36 y36 z36 st36 hQ36
  subst y36 z36
  obtain ⟨rfl, N36q, e36⟩ := hQ36
  have N36 : Fr n0 L36 := by rw [l36]; exact Fr.app N31 N36q
  refine own_go (fun tgt cont => st36 tgt cont) ?_
  show own_Go p e below s (Q0 n0) room_1.cells room_1.slots (T36.setTop (mkF m 151 #[.val (.int p1), .val (.long p2), .second, .val (.int p3), .val (.int p4), .val (.int v1), .val (.int v2), .val (.int v3), .val (.ref b4), .val (.int (1 : Int32)), .unset, .unset] [(.int (own_end_ p2 (6 : Int32) v1)), (.ref b4), (.int (1 : Int32))]))
  generalize hr37 : (own_end_ p2 (6 : Int32) v1) = r37
  refine own_go (B := T36.setTop (mkF m 156 #[.val (.int p1), .val (.long p2), .second, .val (.int p3), .val (.int p4), .val (.int v1), .val (.int v2), .val (.int v3), .val (.ref b4), .val (.int (1 : Int32)), .unset, .unset] [(.int v1), (.int (7 : Int32)), (.long p2), (.int r37), (.ref b4), (.int (1 : Int32))])) (fun tgt cont => ?_) ?_
  · refine XS.lloadN X36.here hx rfl (hb hby at_151) rfl ?_
    refine XT.bipushV X36.here hx rfl (7 : Int32) (hb hby at_152) rfl ?_
    refine XS.iload X36.here hx rfl (hb hby at_154) rfl ?_
    exact cont
  -- pc 156: BuilderAddEdgePinLaw.end
  obtain ⟨_, _, ⟨T38, L38, k38, n38⟩, -, X38, ⟨Lc38, hQ38, l38, y38, z38⟩, st38⟩ := Jvm.LawKit.callS X36 hx (y := (⟨"com/example/cyclecut/cyclecut/graph/BuilderAddEdgePinLaw", "end", "(JII)I"⟩ : MethodName)) hown (mvT hZ (hw _ (List.mem_of_getElem? (i := 17) rfl))) (mvT hZ (hw _ (List.mem_of_getElem? (i := 18) rfl))) (mvT hZ (hw _ (List.mem_of_getElem? (i := 19) rfl))) (mvT hZ (hw _ (List.mem_of_getElem? (i := 20) rfl))) (by decide) (backOf (W := 3) (rm3 l Z a0 hw [] p2 (7 : Int32) v1 T31.heap n0 zp31 n4) hZ (hw _ (List.mem_of_getElem? (i := 20) rfl)) (hw _ (List.mem_of_getElem? (i := 19) rfl)) (by decide) (by decide)) (g := (mkF m 156 #[.val (.int p1), .val (.long p2), .second, .val (.int p3), .val (.int p4), .val (.int v1), .val (.int v2), .val (.int v3), .val (.ref b4), .val (.int (1 : Int32)), .unset, .unset] [(.int v1), (.int (7 : Int32)), (.long p2), (.int r37), (.ref b4), (.int (1 : Int32))])) rfl (by rw [hml]; rfl) (argsL := [(.long p2), (.int (7 : Int32)), (.int v1)]) (rest := [(.int r37), (.ref b4), (.int (1 : Int32))]) (lenOf own_pd6 rfl) rfl (by show 2 * 0 + _ ≤ _; exact Nat.le_of_eq rfl) (hb hby at_156) (fun _ _ => ⟨rfl, e36, (by decide : 0 + 1 + 2 + 0 + 0 + 0 + 0 + 0 + 0 + 0 + 0 + 0 + 0 + 0 ≤ _), (by decide : 0 + 4 + 24 + 0 + 0 + 0 + 0 + 0 + 0 + 0 + 0 + 0 + 0 + 0 ≤ _)⟩)
  dsimp only [Pt.U, Pt.locs, Pt.cells, Pt.slots] at X38 l38 y38 z38 st38 hQ38
  subst y38 z38
  obtain ⟨rfl, N38q, e38⟩ := hQ38
  have N38 : Fr n0 L38 := by rw [l38]; exact Fr.app N36 N38q
  refine own_go (fun tgt cont => st38 tgt cont) ?_
  show own_Go p e below s (Q0 n0) room_1.cells room_1.slots (T38.setTop (mkF m 159 #[.val (.int p1), .val (.long p2), .second, .val (.int p3), .val (.int p4), .val (.int v1), .val (.int v2), .val (.int v3), .val (.ref b4), .val (.int (1 : Int32)), .unset, .unset] [(.int (own_end_ p2 (7 : Int32) v1)), (.int r37), (.ref b4), (.int (1 : Int32))]))
  generalize hr39 : (own_end_ p2 (7 : Int32) v1) = r39
  have B_r37 := own_eB n1 hr37
  have B_r39 := own_eB n1 hr39
  -- pc 159: Graph$Builder.addEdge
  obtain ⟨cq40, kq40, qa40, qb40, qc40⟩ := isOf hZ e38 ex31_0
  obtain ⟨_, _, ⟨T40, L40, k40, n40⟩, -, X40, ⟨Lc40, hQ40, l40, y40, z40⟩, st40⟩ := X38.virtualBack hx (y := (⟨"com/example/cyclecut/cyclecut/graph/Graph$Builder", "addEdge", "(II)I"⟩ : MethodName)) (z := (⟨"com/example/cyclecut/cyclecut/graph/Graph$Builder", "addEdge", "(II)I"⟩ : MethodName)) hown (mvT hZ (hw _ (List.mem_of_getElem? (i := 22) rfl))) (mvT hZ (hw _ (List.mem_of_getElem? (i := 23) rfl))) (notFace_of_selects (args := #[]) (mvT hZ (hw _ (List.mem_of_getElem? (i := 25) rfl)))) (mvT hZ (hw _ (List.mem_of_getElem? (i := 25) rfl))) (mvT hZ (hw _ (List.mem_of_getElem? (i := 24) rfl))) (by decide) (backOf (W := 1) (rm4_N l Z a0 hw [] b4 r37 r39 v1 b5_0 b5_1 (3 : Int32) w33 ([r10, r12, r19, r21, r28, r30, (0 : Int32), (0 : Int32), (0 : Int32), (0 : Int32), (0 : Int32), (0 : Int32), (0 : Int32), (0 : Int32), (0 : Int32), (0 : Int32)]) T31.heap n0 zp31 ex31_0 fa31_0 fa31_1 fa31_2 fa31_3 g_b4 fa31_4 g_b5_0 al35 g_b5_1 ne_b5_0_b5_1 B_r37.1 B_r37.2.1 B_r39.1 B_r39.2.1 (own_hg3 rfl) (own_c1_3 rfl) (own_c2_3 rfl) (own_dB DG3 B_r37) (own_dB DG3 B_r39)) hZ (hw _ (List.mem_of_getElem? (i := 26) rfl)) (hw _ (List.mem_of_getElem? (i := 3) rfl)) (by decide) (by decide)) qa40 qc40 (g := (mkF m 159 #[.val (.int p1), .val (.long p2), .second, .val (.int p3), .val (.int p4), .val (.int v1), .val (.int v2), .val (.int v3), .val (.ref b4), .val (.int (1 : Int32)), .unset, .unset] [(.int r39), (.int r37), (.ref b4), (.int (1 : Int32))])) rfl (by rw [hml]; rfl) (Steps.refl _) (argsL := [(.int r37), (.int r39)]) (rest := [(.int (1 : Int32))]) (lenOf own_pd1 rfl) rfl (by show 2 * 0 + _ ≤ _; exact Nat.le_of_eq rfl) (hb hby at_159) (fun _ _ => ⟨rfl, e38, (by decide : 0 + 1 + 2 + 0 + 0 + 0 + 0 + 0 + 0 + 0 + 0 + 0 + 0 + 0 + 0 ≤ _), (by decide : 0 + 4 + 24 + 0 + 0 + 0 + 0 + 0 + 0 + 0 + 0 + 0 + 0 + 0 + 0 ≤ _)⟩)
  dsimp only [Pt.U, Pt.locs, Pt.cells, Pt.slots] at X40 l40 y40 z40 st40 hQ40
  subst y40 z40
  obtain ⟨rfl, N40q, K40, ex40_0, fa40_0, fa40_1, fa40_2, fa40_3, fa40_4, fa40_5⟩ := hQ40
  have N40 : Fr n0 L40 := by rw [l40]; exact Fr.app N38 N40q
  have kk40 : Keep h0 T40.heap [] := kk31.trans K40 (allS (Or.inr sz_b4) (allS (Or.inr sz_b5_0) (allS (Or.inr sz_b5_1) all0)))
  have zp40 : n0 ≤ T40.heap.size := Nat.le_trans Z0 kk40.1
  generalize hw41 : (own_ae_edgeCount (3 : Int32)) = w41 at fa40_3
  generalize hw42 : (own_ae_ds r37 r39 w33) = w42 at fa40_4
  generalize hw43 : (own_ae_es r37 r39 (3 : Int32) [r10, r12, r19, r21, r28, r30, (0 : Int32), (0 : Int32), (0 : Int32), (0 : Int32), (0 : Int32), (0 : Int32), (0 : Int32), (0 : Int32), (0 : Int32), (0 : Int32)]) = w43 at fa40_5
  refine own_go (fun tgt cont => st40.trans cont) ?_
  show own_Go p e below s (Q0 n0) room_1.cells room_1.slots (T40.setTop (mkF m 162 #[.val (.int p1), .val (.long p2), .second, .val (.int p3), .val (.int p4), .val (.int v1), .val (.int v2), .val (.int v3), .val (.ref b4), .val (.int (1 : Int32)), .unset, .unset] [(.int (3 : Int32)), (.int (1 : Int32))]))
  obtain rfl : w41 = (4 : Int32) := hw41.symm.trans own_ec3
  have DG4 : own_DG [r10, r12, r19, r21, r28, r30, r37, r39] w42 v1.toNatClampNeg := own_DGa DG3 B_r37 B_r39 hw42
  have al44 : own_IA Z T40.heap b5_1 [r10, r12, r19, r21, r28, r30, r37, r39, (0 : Int32), (0 : Int32), (0 : Int32), (0 : Int32), (0 : Int32), (0 : Int32), (0 : Int32), (0 : Int32)] := fa40_5.cong (hw43.symm.trans (own_es3 ..))
  refine own_go (B := T40.setTop (mkF m 181 #[.val (.int p1), .val (.long p2), .second, .val (.int p3), .val (.int p4), .val (.int v1), .val (.int v2), .val (.int v3), .val (.ref b4), .val (.int (1 : Int32)), .unset, .unset] [(.int (8 : Int32)), (.long p2), (.ref b4), (.int (1 : Int32))])) (fun tgt cont => ?_) ?_
  · refine XT.iconstV X40.here hx rfl (3 : Int32) (hb hby at_162) rfl ?_
    refine XS.icmpNo X40.here hx rfl (hb hby at_163) rfl (XT.ii_ne_f (by first | decide | exact (show (3 : Int32) = (3 : Int32) from by decide))) ?_
    refine XT.iconstV X40.here hx rfl (1 : Int32) (hb hby at_166) rfl ?_
    refine XS.goto X40.here hx rfl (pc0 := 167) (pc' := 171) rfl (hb hby at_167) (by decide) (by decide) ?_
    refine XS.iand X40.here hx rfl (hb hby at_171) rfl ?_
    refine XS.istore X40.here hx rfl (hb hby at_172) rfl (l' := #[.val (.int p1), .val (.long p2), .second, .val (.int p3), .val (.int p4), .val (.int v1), .val (.int v2), .val (.int v3), .val (.ref b4), .val (.int (1 : Int32)), .unset, .unset]) rfl ?_
    refine XS.iload X40.here hx rfl (hb hby at_174) rfl ?_
    refine XS.aload X40.here hx rfl (hb hby at_176) rfl rfl ?_
    refine XS.lloadN X40.here hx rfl (hb hby at_178) rfl ?_
    refine XT.bipushV X40.here hx rfl (8 : Int32) (hb hby at_179) rfl ?_
    exact cont
  refine own_go (B := T40.setTop (mkF m 183 #[.val (.int p1), .val (.long p2), .second, .val (.int p3), .val (.int p4), .val (.int v1), .val (.int v2), .val (.int v3), .val (.ref b4), .val (.int (1 : Int32)), .unset, .unset] [(.int v1), (.int (8 : Int32)), (.long p2), (.ref b4), (.int (1 : Int32))])) (fun tgt cont => ?_) ?_
  · refine XS.iload X40.here hx rfl (hb hby at_181) rfl ?_
    exact cont
  -- pc 183: BuilderAddEdgePinLaw.end
  obtain ⟨_, _, ⟨T45, L45, k45, n45⟩, -, X45, ⟨Lc45, hQ45, l45, y45, z45⟩, st45⟩ := Jvm.LawKit.callS X40 hx (y := (⟨"com/example/cyclecut/cyclecut/graph/BuilderAddEdgePinLaw", "end", "(JII)I"⟩ : MethodName)) hown (mvT hZ (hw _ (List.mem_of_getElem? (i := 17) rfl))) (mvT hZ (hw _ (List.mem_of_getElem? (i := 18) rfl))) (mvT hZ (hw _ (List.mem_of_getElem? (i := 19) rfl))) (mvT hZ (hw _ (List.mem_of_getElem? (i := 20) rfl))) (by decide) (backOf (W := 2) (rm3 l Z a0 hw [] p2 (8 : Int32) v1 T40.heap n0 zp40 n4) hZ (hw _ (List.mem_of_getElem? (i := 20) rfl)) (hw _ (List.mem_of_getElem? (i := 19) rfl)) (by decide) (by decide)) (g := (mkF m 183 #[.val (.int p1), .val (.long p2), .second, .val (.int p3), .val (.int p4), .val (.int v1), .val (.int v2), .val (.int v3), .val (.ref b4), .val (.int (1 : Int32)), .unset, .unset] [(.int v1), (.int (8 : Int32)), (.long p2), (.ref b4), (.int (1 : Int32))])) rfl (by rw [hml]; rfl) (argsL := [(.long p2), (.int (8 : Int32)), (.int v1)]) (rest := [(.ref b4), (.int (1 : Int32))]) (lenOf own_pd6 rfl) rfl (by show 2 * 0 + _ ≤ _; exact Nat.le_of_eq rfl) (hb hby at_183) (fun _ _ => ⟨rfl, rfl, (by decide : 0 + 1 + 2 + 0 + 0 + 0 + 0 + 0 + 0 + 0 + 0 + 0 + 0 + 0 + 0 + 0 ≤ _), (by decide : 0 + 4 + 24 + 0 + 0 + 0 + 0 + 0 + 0 + 0 + 0 + 0 + 0 + 0 + 0 + 0 ≤ _)⟩)
  dsimp only [Pt.U, Pt.locs, Pt.cells, Pt.slots] at X45 l45 y45 z45 st45 hQ45
  subst y45 z45
  obtain ⟨rfl, N45q, e45⟩ := hQ45
  have N45 : Fr n0 L45 := by rw [l45]; exact Fr.app N40 N45q
  refine own_go (fun tgt cont => st45 tgt cont) ?_
  show own_Go p e below s (Q0 n0) room_1.cells room_1.slots (T45.setTop (mkF m 186 #[.val (.int p1), .val (.long p2), .second, .val (.int p3), .val (.int p4), .val (.int v1), .val (.int v2), .val (.int v3), .val (.ref b4), .val (.int (1 : Int32)), .unset, .unset] [(.int (own_end_ p2 (8 : Int32) v1)), (.ref b4), (.int (1 : Int32))]))
  generalize hr46 : (own_end_ p2 (8 : Int32) v1) = r46
  refine own_go (B := T45.setTop (mkF m 191 #[.val (.int p1), .val (.long p2), .second, .val (.int p3), .val (.int p4), .val (.int v1), .val (.int v2), .val (.int v3), .val (.ref b4), .val (.int (1 : Int32)), .unset, .unset] [(.int v1), (.int (9 : Int32)), (.long p2), (.int r46), (.ref b4), (.int (1 : Int32))])) (fun tgt cont => ?_) ?_
  · refine XS.lloadN X45.here hx rfl (hb hby at_186) rfl ?_
    refine XT.bipushV X45.here hx rfl (9 : Int32) (hb hby at_187) rfl ?_
    refine XS.iload X45.here hx rfl (hb hby at_189) rfl ?_
    exact cont
  -- pc 191: BuilderAddEdgePinLaw.end
  obtain ⟨_, _, ⟨T47, L47, k47, n47⟩, -, X47, ⟨Lc47, hQ47, l47, y47, z47⟩, st47⟩ := Jvm.LawKit.callS X45 hx (y := (⟨"com/example/cyclecut/cyclecut/graph/BuilderAddEdgePinLaw", "end", "(JII)I"⟩ : MethodName)) hown (mvT hZ (hw _ (List.mem_of_getElem? (i := 17) rfl))) (mvT hZ (hw _ (List.mem_of_getElem? (i := 18) rfl))) (mvT hZ (hw _ (List.mem_of_getElem? (i := 19) rfl))) (mvT hZ (hw _ (List.mem_of_getElem? (i := 20) rfl))) (by decide) (backOf (W := 3) (rm3 l Z a0 hw [] p2 (9 : Int32) v1 T40.heap n0 zp40 n4) hZ (hw _ (List.mem_of_getElem? (i := 20) rfl)) (hw _ (List.mem_of_getElem? (i := 19) rfl)) (by decide) (by decide)) (g := (mkF m 191 #[.val (.int p1), .val (.long p2), .second, .val (.int p3), .val (.int p4), .val (.int v1), .val (.int v2), .val (.int v3), .val (.ref b4), .val (.int (1 : Int32)), .unset, .unset] [(.int v1), (.int (9 : Int32)), (.long p2), (.int r46), (.ref b4), (.int (1 : Int32))])) rfl (by rw [hml]; rfl) (argsL := [(.long p2), (.int (9 : Int32)), (.int v1)]) (rest := [(.int r46), (.ref b4), (.int (1 : Int32))]) (lenOf own_pd6 rfl) rfl (by show 2 * 0 + _ ≤ _; exact Nat.le_of_eq rfl) (hb hby at_191) (fun _ _ => ⟨rfl, e45, (by decide : 0 + 1 + 2 + 0 + 0 + 0 + 0 + 0 + 0 + 0 + 0 + 0 + 0 + 0 + 0 + 0 + 0 ≤ _), (by decide : 0 + 4 + 24 + 0 + 0 + 0 + 0 + 0 + 0 + 0 + 0 + 0 + 0 + 0 + 0 + 0 + 0 ≤ _)⟩)
  dsimp only [Pt.U, Pt.locs, Pt.cells, Pt.slots] at X47 l47 y47 z47 st47 hQ47
  subst y47 z47
  obtain ⟨rfl, N47q, e47⟩ := hQ47
  have N47 : Fr n0 L47 := by rw [l47]; exact Fr.app N45 N47q
  refine own_go (fun tgt cont => st47 tgt cont) ?_
  show own_Go p e below s (Q0 n0) room_1.cells room_1.slots (T47.setTop (mkF m 194 #[.val (.int p1), .val (.long p2), .second, .val (.int p3), .val (.int p4), .val (.int v1), .val (.int v2), .val (.int v3), .val (.ref b4), .val (.int (1 : Int32)), .unset, .unset] [(.int (own_end_ p2 (9 : Int32) v1)), (.int r46), (.ref b4), (.int (1 : Int32))]))
  generalize hr48 : (own_end_ p2 (9 : Int32) v1) = r48
  have B_r46 := own_eB n1 hr46
  have B_r48 := own_eB n1 hr48
  -- pc 194: Graph$Builder.addEdge
  obtain ⟨cq49, kq49, qa49, qb49, qc49⟩ := isOf hZ e47 ex40_0
  obtain ⟨_, _, ⟨T49, L49, k49, n49⟩, -, X49, ⟨Lc49, hQ49, l49, y49, z49⟩, st49⟩ := X47.virtualBack hx (y := (⟨"com/example/cyclecut/cyclecut/graph/Graph$Builder", "addEdge", "(II)I"⟩ : MethodName)) (z := (⟨"com/example/cyclecut/cyclecut/graph/Graph$Builder", "addEdge", "(II)I"⟩ : MethodName)) hown (mvT hZ (hw _ (List.mem_of_getElem? (i := 22) rfl))) (mvT hZ (hw _ (List.mem_of_getElem? (i := 23) rfl))) (notFace_of_selects (args := #[]) (mvT hZ (hw _ (List.mem_of_getElem? (i := 25) rfl)))) (mvT hZ (hw _ (List.mem_of_getElem? (i := 25) rfl))) (mvT hZ (hw _ (List.mem_of_getElem? (i := 24) rfl))) (by decide) (backOf (W := 1) (rm4_N l Z a0 hw [] b4 r46 r48 v1 b5_0 b5_1 (4 : Int32) w42 ([r10, r12, r19, r21, r28, r30, r37, r39, (0 : Int32), (0 : Int32), (0 : Int32), (0 : Int32), (0 : Int32), (0 : Int32), (0 : Int32), (0 : Int32)]) T40.heap n0 zp40 ex40_0 fa40_0 fa40_1 fa40_2 fa40_3 g_b4 fa40_4 g_b5_0 al44 g_b5_1 ne_b5_0_b5_1 B_r46.1 B_r46.2.1 B_r48.1 B_r48.2.1 (own_hg4 rfl) (own_c1_4 rfl) (own_c2_4 rfl) (own_dB DG4 B_r46) (own_dB DG4 B_r48)) hZ (hw _ (List.mem_of_getElem? (i := 26) rfl)) (hw _ (List.mem_of_getElem? (i := 3) rfl)) (by decide) (by decide)) qa49 qc49 (g := (mkF m 194 #[.val (.int p1), .val (.long p2), .second, .val (.int p3), .val (.int p4), .val (.int v1), .val (.int v2), .val (.int v3), .val (.ref b4), .val (.int (1 : Int32)), .unset, .unset] [(.int r48), (.int r46), (.ref b4), (.int (1 : Int32))])) rfl (by rw [hml]; rfl) (Steps.refl _) (argsL := [(.int r46), (.int r48)]) (rest := [(.int (1 : Int32))]) (lenOf own_pd1 rfl) rfl (by show 2 * 0 + _ ≤ _; exact Nat.le_of_eq rfl) (hb hby at_194) (fun _ _ => ⟨rfl, e47, (by decide : 0 + 1 + 2 + 0 + 0 + 0 + 0 + 0 + 0 + 0 + 0 + 0 + 0 + 0 + 0 + 0 + 0 + 0 ≤ _), (by decide : 0 + 4 + 24 + 0 + 0 + 0 + 0 + 0 + 0 + 0 + 0 + 0 + 0 + 0 + 0 + 0 + 0 + 0 ≤ _)⟩)
  dsimp only [Pt.U, Pt.locs, Pt.cells, Pt.slots] at X49 l49 y49 z49 st49 hQ49
  subst y49 z49
  obtain ⟨rfl, N49q, K49, ex49_0, fa49_0, fa49_1, fa49_2, fa49_3, fa49_4, fa49_5⟩ := hQ49
  have N49 : Fr n0 L49 := by rw [l49]; exact Fr.app N47 N49q
  have kk49 : Keep h0 T49.heap [] := kk40.trans K49 (allS (Or.inr sz_b4) (allS (Or.inr sz_b5_0) (allS (Or.inr sz_b5_1) all0)))
  have zp49 : n0 ≤ T49.heap.size := Nat.le_trans Z0 kk49.1
  generalize hw50 : (own_ae_edgeCount (4 : Int32)) = w50 at fa49_3
  generalize hw51 : (own_ae_ds r46 r48 w42) = w51 at fa49_4
  generalize hw52 : (own_ae_es r46 r48 (4 : Int32) [r10, r12, r19, r21, r28, r30, r37, r39, (0 : Int32), (0 : Int32), (0 : Int32), (0 : Int32), (0 : Int32), (0 : Int32), (0 : Int32), (0 : Int32)]) = w52 at fa49_5
  refine own_go (fun tgt cont => st49.trans cont) ?_
  show own_Go p e below s (Q0 n0) room_1.cells room_1.slots (T49.setTop (mkF m 197 #[.val (.int p1), .val (.long p2), .second, .val (.int p3), .val (.int p4), .val (.int v1), .val (.int v2), .val (.int v3), .val (.ref b4), .val (.int (1 : Int32)), .unset, .unset] [(.int (4 : Int32)), (.int (1 : Int32))]))
  obtain rfl : w50 = (5 : Int32) := hw50.symm.trans own_ec4
  have DG5 : own_DG [r10, r12, r19, r21, r28, r30, r37, r39, r46, r48] w51 v1.toNatClampNeg := own_DGa DG4 B_r46 B_r48 hw51
  have al53 : own_IA Z T49.heap b5_1 [r10, r12, r19, r21, r28, r30, r37, r39, r46, r48, (0 : Int32), (0 : Int32), (0 : Int32), (0 : Int32), (0 : Int32), (0 : Int32)] := fa49_5.cong (hw52.symm.trans (own_es4 ..))
  refine own_go (B := T49.setTop (mkF m 216 #[.val (.int p1), .val (.long p2), .second, .val (.int p3), .val (.int p4), .val (.int v1), .val (.int v2), .val (.int v3), .val (.ref b4), .val (.int (1 : Int32)), .unset, .unset] [(.int (10 : Int32)), (.long p2), (.ref b4), (.int (1 : Int32))])) (fun tgt cont => ?_) ?_
  · refine XT.iconstV X49.here hx rfl (4 : Int32) (hb hby at_197) rfl ?_
    refine XS.icmpNo X49.here hx rfl (hb hby at_198) rfl (XT.ii_ne_f (by first | decide | exact (show (4 : Int32) = (4 : Int32) from by decide))) ?_
    refine XT.iconstV X49.here hx rfl (1 : Int32) (hb hby at_201) rfl ?_
    refine XS.goto X49.here hx rfl (pc0 := 202) (pc' := 206) rfl (hb hby at_202) (by decide) (by decide) ?_
    refine XS.iand X49.here hx rfl (hb hby at_206) rfl ?_
    refine XS.istore X49.here hx rfl (hb hby at_207) rfl (l' := #[.val (.int p1), .val (.long p2), .second, .val (.int p3), .val (.int p4), .val (.int v1), .val (.int v2), .val (.int v3), .val (.ref b4), .val (.int (1 : Int32)), .unset, .unset]) rfl ?_
    refine XS.iload X49.here hx rfl (hb hby at_209) rfl ?_
    refine XS.aload X49.here hx rfl (hb hby at_211) rfl rfl ?_
    refine XS.lloadN X49.here hx rfl (hb hby at_213) rfl ?_
    refine XT.bipushV X49.here hx rfl (10 : Int32) (hb hby at_214) rfl ?_
    exact cont
  refine own_go (B := T49.setTop (mkF m 218 #[.val (.int p1), .val (.long p2), .second, .val (.int p3), .val (.int p4), .val (.int v1), .val (.int v2), .val (.int v3), .val (.ref b4), .val (.int (1 : Int32)), .unset, .unset] [(.int v1), (.int (10 : Int32)), (.long p2), (.ref b4), (.int (1 : Int32))])) (fun tgt cont => ?_) ?_
  · refine XS.iload X49.here hx rfl (hb hby at_216) rfl ?_
    exact cont
  -- pc 218: BuilderAddEdgePinLaw.end
  obtain ⟨_, _, ⟨T54, L54, k54, n54⟩, -, X54, ⟨Lc54, hQ54, l54, y54, z54⟩, st54⟩ := Jvm.LawKit.callS X49 hx (y := (⟨"com/example/cyclecut/cyclecut/graph/BuilderAddEdgePinLaw", "end", "(JII)I"⟩ : MethodName)) hown (mvT hZ (hw _ (List.mem_of_getElem? (i := 17) rfl))) (mvT hZ (hw _ (List.mem_of_getElem? (i := 18) rfl))) (mvT hZ (hw _ (List.mem_of_getElem? (i := 19) rfl))) (mvT hZ (hw _ (List.mem_of_getElem? (i := 20) rfl))) (by decide) (backOf (W := 2) (rm3 l Z a0 hw [] p2 (10 : Int32) v1 T49.heap n0 zp49 n4) hZ (hw _ (List.mem_of_getElem? (i := 20) rfl)) (hw _ (List.mem_of_getElem? (i := 19) rfl)) (by decide) (by decide)) (g := (mkF m 218 #[.val (.int p1), .val (.long p2), .second, .val (.int p3), .val (.int p4), .val (.int v1), .val (.int v2), .val (.int v3), .val (.ref b4), .val (.int (1 : Int32)), .unset, .unset] [(.int v1), (.int (10 : Int32)), (.long p2), (.ref b4), (.int (1 : Int32))])) rfl (by rw [hml]; rfl) (argsL := [(.long p2), (.int (10 : Int32)), (.int v1)]) (rest := [(.ref b4), (.int (1 : Int32))]) (lenOf own_pd6 rfl) rfl (by show 2 * 0 + _ ≤ _; exact Nat.le_of_eq rfl) (hb hby at_218) (fun _ _ => ⟨rfl, rfl, (by decide : 0 + 1 + 2 + 0 + 0 + 0 + 0 + 0 + 0 + 0 + 0 + 0 + 0 + 0 + 0 + 0 + 0 + 0 + 0 ≤ _), (by decide : 0 + 4 + 24 + 0 + 0 + 0 + 0 + 0 + 0 + 0 + 0 + 0 + 0 + 0 + 0 + 0 + 0 + 0 + 0 ≤ _)⟩)
  dsimp only [Pt.U, Pt.locs, Pt.cells, Pt.slots] at X54 l54 y54 z54 st54 hQ54
  subst y54 z54
  obtain ⟨rfl, N54q, e54⟩ := hQ54
  have N54 : Fr n0 L54 := by rw [l54]; exact Fr.app N49 N54q
  refine own_go (fun tgt cont => st54 tgt cont) ?_
  show own_Go p e below s (Q0 n0) room_1.cells room_1.slots (T54.setTop (mkF m 221 #[.val (.int p1), .val (.long p2), .second, .val (.int p3), .val (.int p4), .val (.int v1), .val (.int v2), .val (.int v3), .val (.ref b4), .val (.int (1 : Int32)), .unset, .unset] [(.int (own_end_ p2 (10 : Int32) v1)), (.ref b4), (.int (1 : Int32))]))
  generalize hr55 : (own_end_ p2 (10 : Int32) v1) = r55
  refine own_go (B := T54.setTop (mkF m 226 #[.val (.int p1), .val (.long p2), .second, .val (.int p3), .val (.int p4), .val (.int v1), .val (.int v2), .val (.int v3), .val (.ref b4), .val (.int (1 : Int32)), .unset, .unset] [(.int v1), (.int (11 : Int32)), (.long p2), (.int r55), (.ref b4), (.int (1 : Int32))])) (fun tgt cont => ?_) ?_
  · refine XS.lloadN X54.here hx rfl (hb hby at_221) rfl ?_
    refine XT.bipushV X54.here hx rfl (11 : Int32) (hb hby at_222) rfl ?_
    refine XS.iload X54.here hx rfl (hb hby at_224) rfl ?_
    exact cont
  -- pc 226: BuilderAddEdgePinLaw.end
  obtain ⟨_, _, ⟨T56, L56, k56, n56⟩, -, X56, ⟨Lc56, hQ56, l56, y56, z56⟩, st56⟩ := Jvm.LawKit.callS X54 hx (y := (⟨"com/example/cyclecut/cyclecut/graph/BuilderAddEdgePinLaw", "end", "(JII)I"⟩ : MethodName)) hown (mvT hZ (hw _ (List.mem_of_getElem? (i := 17) rfl))) (mvT hZ (hw _ (List.mem_of_getElem? (i := 18) rfl))) (mvT hZ (hw _ (List.mem_of_getElem? (i := 19) rfl))) (mvT hZ (hw _ (List.mem_of_getElem? (i := 20) rfl))) (by decide) (backOf (W := 3) (rm3 l Z a0 hw [] p2 (11 : Int32) v1 T49.heap n0 zp49 n4) hZ (hw _ (List.mem_of_getElem? (i := 20) rfl)) (hw _ (List.mem_of_getElem? (i := 19) rfl)) (by decide) (by decide)) (g := (mkF m 226 #[.val (.int p1), .val (.long p2), .second, .val (.int p3), .val (.int p4), .val (.int v1), .val (.int v2), .val (.int v3), .val (.ref b4), .val (.int (1 : Int32)), .unset, .unset] [(.int v1), (.int (11 : Int32)), (.long p2), (.int r55), (.ref b4), (.int (1 : Int32))])) rfl (by rw [hml]; rfl) (argsL := [(.long p2), (.int (11 : Int32)), (.int v1)]) (rest := [(.int r55), (.ref b4), (.int (1 : Int32))]) (lenOf own_pd6 rfl) rfl (by show 2 * 0 + _ ≤ _; exact Nat.le_of_eq rfl) (hb hby at_226) (fun _ _ => ⟨rfl, e54, (by decide : 0 + 1 + 2 + 0 + 0 + 0 + 0 + 0 + 0 + 0 + 0 + 0 + 0 + 0 + 0 + 0 + 0 + 0 + 0 + 0 ≤ _), (by decide : 0 + 4 + 24 + 0 + 0 + 0 + 0 + 0 + 0 + 0 + 0 + 0 + 0 + 0 + 0 + 0 + 0 + 0 + 0 + 0 ≤ _)⟩)
  dsimp only [Pt.U, Pt.locs, Pt.cells, Pt.slots] at X56 l56 y56 z56 st56 hQ56
  subst y56 z56
  obtain ⟨rfl, N56q, e56⟩ := hQ56
  have N56 : Fr n0 L56 := by rw [l56]; exact Fr.app N54 N56q
  refine own_go (fun tgt cont => st56 tgt cont) ?_
  show own_Go p e below s (Q0 n0) room_1.cells room_1.slots (T56.setTop (mkF m 229 #[.val (.int p1), .val (.long p2), .second, .val (.int p3), .val (.int p4), .val (.int v1), .val (.int v2), .val (.int v3), .val (.ref b4), .val (.int (1 : Int32)), .unset, .unset] [(.int (own_end_ p2 (11 : Int32) v1)), (.int r55), (.ref b4), (.int (1 : Int32))]))
  generalize hr57 : (own_end_ p2 (11 : Int32) v1) = r57
  have B_r55 := own_eB n1 hr55
  have B_r57 := own_eB n1 hr57
  -- pc 229: Graph$Builder.addEdge
  obtain ⟨cq58, kq58, qa58, qb58, qc58⟩ := isOf hZ e56 ex49_0
  obtain ⟨_, _, ⟨T58, L58, k58, n58⟩, -, X58, ⟨Lc58, hQ58, l58, y58, z58⟩, st58⟩ := X56.virtualBack hx (y := (⟨"com/example/cyclecut/cyclecut/graph/Graph$Builder", "addEdge", "(II)I"⟩ : MethodName)) (z := (⟨"com/example/cyclecut/cyclecut/graph/Graph$Builder", "addEdge", "(II)I"⟩ : MethodName)) hown (mvT hZ (hw _ (List.mem_of_getElem? (i := 22) rfl))) (mvT hZ (hw _ (List.mem_of_getElem? (i := 23) rfl))) (notFace_of_selects (args := #[]) (mvT hZ (hw _ (List.mem_of_getElem? (i := 25) rfl)))) (mvT hZ (hw _ (List.mem_of_getElem? (i := 25) rfl))) (mvT hZ (hw _ (List.mem_of_getElem? (i := 24) rfl))) (by decide) (backOf (W := 1) (rm4_N l Z a0 hw [] b4 r55 r57 v1 b5_0 b5_1 (5 : Int32) w51 ([r10, r12, r19, r21, r28, r30, r37, r39, r46, r48, (0 : Int32), (0 : Int32), (0 : Int32), (0 : Int32), (0 : Int32), (0 : Int32)]) T49.heap n0 zp49 ex49_0 fa49_0 fa49_1 fa49_2 fa49_3 g_b4 fa49_4 g_b5_0 al53 g_b5_1 ne_b5_0_b5_1 B_r55.1 B_r55.2.1 B_r57.1 B_r57.2.1 (own_hg5 rfl) (own_c1_5 rfl) (own_c2_5 rfl) (own_dB DG5 B_r55) (own_dB DG5 B_r57)) hZ (hw _ (List.mem_of_getElem? (i := 26) rfl)) (hw _ (List.mem_of_getElem? (i := 3) rfl)) (by decide) (by decide)) qa58 qc58 (g := (mkF m 229 #[.val (.int p1), .val (.long p2), .second, .val (.int p3), .val (.int p4), .val (.int v1), .val (.int v2), .val (.int v3), .val (.ref b4), .val (.int (1 : Int32)), .unset, .unset] [(.int r57), (.int r55), (.ref b4), (.int (1 : Int32))])) rfl (by rw [hml]; rfl) (Steps.refl _) (argsL := [(.int r55), (.int r57)]) (rest := [(.int (1 : Int32))]) (lenOf own_pd1 rfl) rfl (by show 2 * 0 + _ ≤ _; exact Nat.le_of_eq rfl) (hb hby at_229) (fun _ _ => ⟨rfl, e56, (by decide : 0 + 1 + 2 + 0 + 0 + 0 + 0 + 0 + 0 + 0 + 0 + 0 + 0 + 0 + 0 + 0 + 0 + 0 + 0 + 0 + 0 ≤ _), (by decide : 0 + 4 + 24 + 0 + 0 + 0 + 0 + 0 + 0 + 0 + 0 + 0 + 0 + 0 + 0 + 0 + 0 + 0 + 0 + 0 + 0 ≤ _)⟩)
  dsimp only [Pt.U, Pt.locs, Pt.cells, Pt.slots] at X58 l58 y58 z58 st58 hQ58
  subst y58 z58
  obtain ⟨rfl, N58q, K58, ex58_0, fa58_0, fa58_1, fa58_2, fa58_3, fa58_4, fa58_5⟩ := hQ58
  have N58 : Fr n0 L58 := by rw [l58]; exact Fr.app N56 N58q
  have kk58 : Keep h0 T58.heap [] := kk49.trans K58 (allS (Or.inr sz_b4) (allS (Or.inr sz_b5_0) (allS (Or.inr sz_b5_1) all0)))
  have zp58 : n0 ≤ T58.heap.size := Nat.le_trans Z0 kk58.1
  generalize hw59 : (own_ae_edgeCount (5 : Int32)) = w59 at fa58_3
  generalize hw60 : (own_ae_ds r55 r57 w51) = w60 at fa58_4
  generalize hw61 : (own_ae_es r55 r57 (5 : Int32) [r10, r12, r19, r21, r28, r30, r37, r39, r46, r48, (0 : Int32), (0 : Int32), (0 : Int32), (0 : Int32), (0 : Int32), (0 : Int32)]) = w61 at fa58_5
  refine own_go (fun tgt cont => st58.trans cont) ?_
  show own_Go p e below s (Q0 n0) room_1.cells room_1.slots (T58.setTop (mkF m 232 #[.val (.int p1), .val (.long p2), .second, .val (.int p3), .val (.int p4), .val (.int v1), .val (.int v2), .val (.int v3), .val (.ref b4), .val (.int (1 : Int32)), .unset, .unset] [(.int (5 : Int32)), (.int (1 : Int32))]))
  obtain rfl : w59 = (6 : Int32) := hw59.symm.trans own_ec5
  have DG6 : own_DG [r10, r12, r19, r21, r28, r30, r37, r39, r46, r48, r55, r57] w60 v1.toNatClampNeg := own_DGa DG5 B_r55 B_r57 hw60
  have al62 : own_IA Z T58.heap b5_1 [r10, r12, r19, r21, r28, r30, r37, r39, r46, r48, r55, r57, (0 : Int32), (0 : Int32), (0 : Int32), (0 : Int32)] := fa58_5.cong (hw61.symm.trans (own_es5 ..))
  refine own_go (B := T58.setTop (mkF m 251 #[.val (.int p1), .val (.long p2), .second, .val (.int p3), .val (.int p4), .val (.int v1), .val (.int v2), .val (.int v3), .val (.ref b4), .val (.int (1 : Int32)), .unset, .unset] [(.int (12 : Int32)), (.long p2), (.ref b4), (.int (1 : Int32))])) (fun tgt cont => ?_) ?_
  · refine XT.iconstV X58.here hx rfl (5 : Int32) (hb hby at_232) rfl ?_
    refine XS.icmpNo X58.here hx rfl (hb hby at_233) rfl (XT.ii_ne_f (by first | decide | exact (show (5 : Int32) = (5 : Int32) from by decide))) ?_
    refine XT.iconstV X58.here hx rfl (1 : Int32) (hb hby at_236) rfl ?_
    refine XS.goto X58.here hx rfl (pc0 := 237) (pc' := 241) rfl (hb hby at_237) (by decide) (by decide) ?_
    refine XS.iand X58.here hx rfl (hb hby at_241) rfl ?_
    refine XS.istore X58.here hx rfl (hb hby at_242) rfl (l' := #[.val (.int p1), .val (.long p2), .second, .val (.int p3), .val (.int p4), .val (.int v1), .val (.int v2), .val (.int v3), .val (.ref b4), .val (.int (1 : Int32)), .unset, .unset]) rfl ?_
    refine XS.iload X58.here hx rfl (hb hby at_244) rfl ?_
    refine XS.aload X58.here hx rfl (hb hby at_246) rfl rfl ?_
    refine XS.lloadN X58.here hx rfl (hb hby at_248) rfl ?_
    refine XT.bipushV X58.here hx rfl (12 : Int32) (hb hby at_249) rfl ?_
    exact cont
  refine own_go (B := T58.setTop (mkF m 253 #[.val (.int p1), .val (.long p2), .second, .val (.int p3), .val (.int p4), .val (.int v1), .val (.int v2), .val (.int v3), .val (.ref b4), .val (.int (1 : Int32)), .unset, .unset] [(.int v1), (.int (12 : Int32)), (.long p2), (.ref b4), (.int (1 : Int32))])) (fun tgt cont => ?_) ?_
  · refine XS.iload X58.here hx rfl (hb hby at_251) rfl ?_
    exact cont
  -- pc 253: BuilderAddEdgePinLaw.end
  obtain ⟨_, _, ⟨T63, L63, k63, n63⟩, -, X63, ⟨Lc63, hQ63, l63, y63, z63⟩, st63⟩ := Jvm.LawKit.callS X58 hx (y := (⟨"com/example/cyclecut/cyclecut/graph/BuilderAddEdgePinLaw", "end", "(JII)I"⟩ : MethodName)) hown (mvT hZ (hw _ (List.mem_of_getElem? (i := 17) rfl))) (mvT hZ (hw _ (List.mem_of_getElem? (i := 18) rfl))) (mvT hZ (hw _ (List.mem_of_getElem? (i := 19) rfl))) (mvT hZ (hw _ (List.mem_of_getElem? (i := 20) rfl))) (by decide) (backOf (W := 2) (rm3 l Z a0 hw [] p2 (12 : Int32) v1 T58.heap n0 zp58 n4) hZ (hw _ (List.mem_of_getElem? (i := 20) rfl)) (hw _ (List.mem_of_getElem? (i := 19) rfl)) (by decide) (by decide)) (g := (mkF m 253 #[.val (.int p1), .val (.long p2), .second, .val (.int p3), .val (.int p4), .val (.int v1), .val (.int v2), .val (.int v3), .val (.ref b4), .val (.int (1 : Int32)), .unset, .unset] [(.int v1), (.int (12 : Int32)), (.long p2), (.ref b4), (.int (1 : Int32))])) rfl (by rw [hml]; rfl) (argsL := [(.long p2), (.int (12 : Int32)), (.int v1)]) (rest := [(.ref b4), (.int (1 : Int32))]) (lenOf own_pd6 rfl) rfl (by show 2 * 0 + _ ≤ _; exact Nat.le_of_eq rfl) (hb hby at_253) (fun _ _ => ⟨rfl, rfl, (by decide : 0 + 1 + 2 + 0 + 0 + 0 + 0 + 0 + 0 + 0 + 0 + 0 + 0 + 0 + 0 + 0 + 0 + 0 + 0 + 0 + 0 + 0 ≤ _), (by decide : 0 + 4 + 24 + 0 + 0 + 0 + 0 + 0 + 0 + 0 + 0 + 0 + 0 + 0 + 0 + 0 + 0 + 0 + 0 + 0 + 0 + 0 ≤ _)⟩)
  dsimp only [Pt.U, Pt.locs, Pt.cells, Pt.slots] at X63 l63 y63 z63 st63 hQ63
  subst y63 z63
  obtain ⟨rfl, N63q, e63⟩ := hQ63
  have N63 : Fr n0 L63 := by rw [l63]; exact Fr.app N58 N63q
  refine own_go (fun tgt cont => st63 tgt cont) ?_
  show own_Go p e below s (Q0 n0) room_1.cells room_1.slots (T63.setTop (mkF m 256 #[.val (.int p1), .val (.long p2), .second, .val (.int p3), .val (.int p4), .val (.int v1), .val (.int v2), .val (.int v3), .val (.ref b4), .val (.int (1 : Int32)), .unset, .unset] [(.int (own_end_ p2 (12 : Int32) v1)), (.ref b4), (.int (1 : Int32))]))
  generalize hr64 : (own_end_ p2 (12 : Int32) v1) = r64
  refine own_go (B := T63.setTop (mkF m 261 #[.val (.int p1), .val (.long p2), .second, .val (.int p3), .val (.int p4), .val (.int v1), .val (.int v2), .val (.int v3), .val (.ref b4), .val (.int (1 : Int32)), .unset, .unset] [(.int v1), (.int (13 : Int32)), (.long p2), (.int r64), (.ref b4), (.int (1 : Int32))])) (fun tgt cont => ?_) ?_
  · refine XS.lloadN X63.here hx rfl (hb hby at_256) rfl ?_
    refine XT.bipushV X63.here hx rfl (13 : Int32) (hb hby at_257) rfl ?_
    refine XS.iload X63.here hx rfl (hb hby at_259) rfl ?_
    exact cont
  -- pc 261: BuilderAddEdgePinLaw.end
  obtain ⟨_, _, ⟨T65, L65, k65, n65⟩, -, X65, ⟨Lc65, hQ65, l65, y65, z65⟩, st65⟩ := Jvm.LawKit.callS X63 hx (y := (⟨"com/example/cyclecut/cyclecut/graph/BuilderAddEdgePinLaw", "end", "(JII)I"⟩ : MethodName)) hown (mvT hZ (hw _ (List.mem_of_getElem? (i := 17) rfl))) (mvT hZ (hw _ (List.mem_of_getElem? (i := 18) rfl))) (mvT hZ (hw _ (List.mem_of_getElem? (i := 19) rfl))) (mvT hZ (hw _ (List.mem_of_getElem? (i := 20) rfl))) (by decide) (backOf (W := 3) (rm3 l Z a0 hw [] p2 (13 : Int32) v1 T58.heap n0 zp58 n4) hZ (hw _ (List.mem_of_getElem? (i := 20) rfl)) (hw _ (List.mem_of_getElem? (i := 19) rfl)) (by decide) (by decide)) (g := (mkF m 261 #[.val (.int p1), .val (.long p2), .second, .val (.int p3), .val (.int p4), .val (.int v1), .val (.int v2), .val (.int v3), .val (.ref b4), .val (.int (1 : Int32)), .unset, .unset] [(.int v1), (.int (13 : Int32)), (.long p2), (.int r64), (.ref b4), (.int (1 : Int32))])) rfl (by rw [hml]; rfl) (argsL := [(.long p2), (.int (13 : Int32)), (.int v1)]) (rest := [(.int r64), (.ref b4), (.int (1 : Int32))]) (lenOf own_pd6 rfl) rfl (by show 2 * 0 + _ ≤ _; exact Nat.le_of_eq rfl) (hb hby at_261) (fun _ _ => ⟨rfl, e63, (by decide : 0 + 1 + 2 + 0 + 0 + 0 + 0 + 0 + 0 + 0 + 0 + 0 + 0 + 0 + 0 + 0 + 0 + 0 + 0 + 0 + 0 + 0 + 0 ≤ _), (by decide : 0 + 4 + 24 + 0 + 0 + 0 + 0 + 0 + 0 + 0 + 0 + 0 + 0 + 0 + 0 + 0 + 0 + 0 + 0 + 0 + 0 + 0 + 0 ≤ _)⟩)
  dsimp only [Pt.U, Pt.locs, Pt.cells, Pt.slots] at X65 l65 y65 z65 st65 hQ65
  subst y65 z65
  obtain ⟨rfl, N65q, e65⟩ := hQ65
  have N65 : Fr n0 L65 := by rw [l65]; exact Fr.app N63 N65q
  refine own_go (fun tgt cont => st65 tgt cont) ?_
  show own_Go p e below s (Q0 n0) room_1.cells room_1.slots (T65.setTop (mkF m 264 #[.val (.int p1), .val (.long p2), .second, .val (.int p3), .val (.int p4), .val (.int v1), .val (.int v2), .val (.int v3), .val (.ref b4), .val (.int (1 : Int32)), .unset, .unset] [(.int (own_end_ p2 (13 : Int32) v1)), (.int r64), (.ref b4), (.int (1 : Int32))]))
  generalize hr66 : (own_end_ p2 (13 : Int32) v1) = r66
  have B_r64 := own_eB n1 hr64
  have B_r66 := own_eB n1 hr66
  -- pc 264: Graph$Builder.addEdge
  obtain ⟨cq67, kq67, qa67, qb67, qc67⟩ := isOf hZ e65 ex58_0
  obtain ⟨_, _, ⟨T67, L67, k67, n67⟩, -, X67, ⟨Lc67, hQ67, l67, y67, z67⟩, st67⟩ := X65.virtualBack hx (y := (⟨"com/example/cyclecut/cyclecut/graph/Graph$Builder", "addEdge", "(II)I"⟩ : MethodName)) (z := (⟨"com/example/cyclecut/cyclecut/graph/Graph$Builder", "addEdge", "(II)I"⟩ : MethodName)) hown (mvT hZ (hw _ (List.mem_of_getElem? (i := 22) rfl))) (mvT hZ (hw _ (List.mem_of_getElem? (i := 23) rfl))) (notFace_of_selects (args := #[]) (mvT hZ (hw _ (List.mem_of_getElem? (i := 25) rfl)))) (mvT hZ (hw _ (List.mem_of_getElem? (i := 25) rfl))) (mvT hZ (hw _ (List.mem_of_getElem? (i := 24) rfl))) (by decide) (backOf (W := 1) (rm4_N l Z a0 hw [] b4 r64 r66 v1 b5_0 b5_1 (6 : Int32) w60 ([r10, r12, r19, r21, r28, r30, r37, r39, r46, r48, r55, r57, (0 : Int32), (0 : Int32), (0 : Int32), (0 : Int32)]) T58.heap n0 zp58 ex58_0 fa58_0 fa58_1 fa58_2 fa58_3 g_b4 fa58_4 g_b5_0 al62 g_b5_1 ne_b5_0_b5_1 B_r64.1 B_r64.2.1 B_r66.1 B_r66.2.1 (own_hg6 rfl) (own_c1_6 rfl) (own_c2_6 rfl) (own_dB DG6 B_r64) (own_dB DG6 B_r66)) hZ (hw _ (List.mem_of_getElem? (i := 26) rfl)) (hw _ (List.mem_of_getElem? (i := 3) rfl)) (by decide) (by decide)) qa67 qc67 (g := (mkF m 264 #[.val (.int p1), .val (.long p2), .second, .val (.int p3), .val (.int p4), .val (.int v1), .val (.int v2), .val (.int v3), .val (.ref b4), .val (.int (1 : Int32)), .unset, .unset] [(.int r66), (.int r64), (.ref b4), (.int (1 : Int32))])) rfl (by rw [hml]; rfl) (Steps.refl _) (argsL := [(.int r64), (.int r66)]) (rest := [(.int (1 : Int32))]) (lenOf own_pd1 rfl) rfl (by show 2 * 0 + _ ≤ _; exact Nat.le_of_eq rfl) (hb hby at_264) (fun _ _ => ⟨rfl, e65, (by decide : 0 + 1 + 2 + 0 + 0 + 0 + 0 + 0 + 0 + 0 + 0 + 0 + 0 + 0 + 0 + 0 + 0 + 0 + 0 + 0 + 0 + 0 + 0 + 0 ≤ _), (by decide : 0 + 4 + 24 + 0 + 0 + 0 + 0 + 0 + 0 + 0 + 0 + 0 + 0 + 0 + 0 + 0 + 0 + 0 + 0 + 0 + 0 + 0 + 0 + 0 ≤ _)⟩)
  dsimp only [Pt.U, Pt.locs, Pt.cells, Pt.slots] at X67 l67 y67 z67 st67 hQ67
  subst y67 z67
  obtain ⟨rfl, N67q, K67, ex67_0, fa67_0, fa67_1, fa67_2, fa67_3, fa67_4, fa67_5⟩ := hQ67
  have N67 : Fr n0 L67 := by rw [l67]; exact Fr.app N65 N67q
  have kk67 : Keep h0 T67.heap [] := kk58.trans K67 (allS (Or.inr sz_b4) (allS (Or.inr sz_b5_0) (allS (Or.inr sz_b5_1) all0)))
  have zp67 : n0 ≤ T67.heap.size := Nat.le_trans Z0 kk67.1
  generalize hw68 : (own_ae_edgeCount (6 : Int32)) = w68 at fa67_3
  generalize hw69 : (own_ae_ds r64 r66 w60) = w69 at fa67_4
  generalize hw70 : (own_ae_es r64 r66 (6 : Int32) [r10, r12, r19, r21, r28, r30, r37, r39, r46, r48, r55, r57, (0 : Int32), (0 : Int32), (0 : Int32), (0 : Int32)]) = w70 at fa67_5
  refine own_go (fun tgt cont => st67.trans cont) ?_
  show own_Go p e below s (Q0 n0) room_1.cells room_1.slots (T67.setTop (mkF m 267 #[.val (.int p1), .val (.long p2), .second, .val (.int p3), .val (.int p4), .val (.int v1), .val (.int v2), .val (.int v3), .val (.ref b4), .val (.int (1 : Int32)), .unset, .unset] [(.int (6 : Int32)), (.int (1 : Int32))]))
  obtain rfl : w68 = (7 : Int32) := hw68.symm.trans own_ec6
  have DG7 : own_DG [r10, r12, r19, r21, r28, r30, r37, r39, r46, r48, r55, r57, r64, r66] w69 v1.toNatClampNeg := own_DGa DG6 B_r64 B_r66 hw69
  have al71 : own_IA Z T67.heap b5_1 [r10, r12, r19, r21, r28, r30, r37, r39, r46, r48, r55, r57, r64, r66, (0 : Int32), (0 : Int32)] := fa67_5.cong (hw70.symm.trans (own_es6 ..))
  refine own_go (B := T67.setTop (mkF m 287 #[.val (.int p1), .val (.long p2), .second, .val (.int p3), .val (.int p4), .val (.int v1), .val (.int v2), .val (.int v3), .val (.ref b4), .val (.int (1 : Int32)), .unset, .unset] [(.int (14 : Int32)), (.long p2), (.ref b4), (.int (1 : Int32))])) (fun tgt cont => ?_) ?_
  · refine XT.bipushV X67.here hx rfl (6 : Int32) (hb hby at_267) rfl ?_
    refine XS.icmpNo X67.here hx rfl (hb hby at_269) rfl (XT.ii_ne_f (by first | decide | exact (show (6 : Int32) = (6 : Int32) from by decide))) ?_
    refine XT.iconstV X67.here hx rfl (1 : Int32) (hb hby at_272) rfl ?_
    refine XS.goto X67.here hx rfl (pc0 := 273) (pc' := 277) rfl (hb hby at_273) (by decide) (by decide) ?_
    refine XS.iand X67.here hx rfl (hb hby at_277) rfl ?_
    refine XS.istore X67.here hx rfl (hb hby at_278) rfl (l' := #[.val (.int p1), .val (.long p2), .second, .val (.int p3), .val (.int p4), .val (.int v1), .val (.int v2), .val (.int v3), .val (.ref b4), .val (.int (1 : Int32)), .unset, .unset]) rfl ?_
    refine XS.iload X67.here hx rfl (hb hby at_280) rfl ?_
    refine XS.aload X67.here hx rfl (hb hby at_282) rfl rfl ?_
    refine XS.lloadN X67.here hx rfl (hb hby at_284) rfl ?_
    refine XT.bipushV X67.here hx rfl (14 : Int32) (hb hby at_285) rfl ?_
    exact cont
  refine own_go (B := T67.setTop (mkF m 289 #[.val (.int p1), .val (.long p2), .second, .val (.int p3), .val (.int p4), .val (.int v1), .val (.int v2), .val (.int v3), .val (.ref b4), .val (.int (1 : Int32)), .unset, .unset] [(.int v1), (.int (14 : Int32)), (.long p2), (.ref b4), (.int (1 : Int32))])) (fun tgt cont => ?_) ?_
  · refine XS.iload X67.here hx rfl (hb hby at_287) rfl ?_
    exact cont
  -- pc 289: BuilderAddEdgePinLaw.end
  obtain ⟨_, _, ⟨T72, L72, k72, n72⟩, -, X72, ⟨Lc72, hQ72, l72, y72, z72⟩, st72⟩ := Jvm.LawKit.callS X67 hx (y := (⟨"com/example/cyclecut/cyclecut/graph/BuilderAddEdgePinLaw", "end", "(JII)I"⟩ : MethodName)) hown (mvT hZ (hw _ (List.mem_of_getElem? (i := 17) rfl))) (mvT hZ (hw _ (List.mem_of_getElem? (i := 18) rfl))) (mvT hZ (hw _ (List.mem_of_getElem? (i := 19) rfl))) (mvT hZ (hw _ (List.mem_of_getElem? (i := 20) rfl))) (by decide) (backOf (W := 2) (rm3 l Z a0 hw [] p2 (14 : Int32) v1 T67.heap n0 zp67 n4) hZ (hw _ (List.mem_of_getElem? (i := 20) rfl)) (hw _ (List.mem_of_getElem? (i := 19) rfl)) (by decide) (by decide)) (g := (mkF m 289 #[.val (.int p1), .val (.long p2), .second, .val (.int p3), .val (.int p4), .val (.int v1), .val (.int v2), .val (.int v3), .val (.ref b4), .val (.int (1 : Int32)), .unset, .unset] [(.int v1), (.int (14 : Int32)), (.long p2), (.ref b4), (.int (1 : Int32))])) rfl (by rw [hml]; rfl) (argsL := [(.long p2), (.int (14 : Int32)), (.int v1)]) (rest := [(.ref b4), (.int (1 : Int32))]) (lenOf own_pd6 rfl) rfl (by show 2 * 0 + _ ≤ _; exact Nat.le_of_eq rfl) (hb hby at_289) (fun _ _ => ⟨rfl, rfl, (by decide : 0 + 1 + 2 + 0 + 0 + 0 + 0 + 0 + 0 + 0 + 0 + 0 + 0 + 0 + 0 + 0 + 0 + 0 + 0 + 0 + 0 + 0 + 0 + 0 + 0 ≤ _), (by decide : 0 + 4 + 24 + 0 + 0 + 0 + 0 + 0 + 0 + 0 + 0 + 0 + 0 + 0 + 0 + 0 + 0 + 0 + 0 + 0 + 0 + 0 + 0 + 0 + 0 ≤ _)⟩)
  dsimp only [Pt.U, Pt.locs, Pt.cells, Pt.slots] at X72 l72 y72 z72 st72 hQ72
  subst y72 z72
  obtain ⟨rfl, N72q, e72⟩ := hQ72
  have N72 : Fr n0 L72 := by rw [l72]; exact Fr.app N67 N72q
  refine own_go (fun tgt cont => st72 tgt cont) ?_
  show own_Go p e below s (Q0 n0) room_1.cells room_1.slots (T72.setTop (mkF m 292 #[.val (.int p1), .val (.long p2), .second, .val (.int p3), .val (.int p4), .val (.int v1), .val (.int v2), .val (.int v3), .val (.ref b4), .val (.int (1 : Int32)), .unset, .unset] [(.int (own_end_ p2 (14 : Int32) v1)), (.ref b4), (.int (1 : Int32))]))
  generalize hr73 : (own_end_ p2 (14 : Int32) v1) = r73
  refine own_go (B := T72.setTop (mkF m 297 #[.val (.int p1), .val (.long p2), .second, .val (.int p3), .val (.int p4), .val (.int v1), .val (.int v2), .val (.int v3), .val (.ref b4), .val (.int (1 : Int32)), .unset, .unset] [(.int v1), (.int (15 : Int32)), (.long p2), (.int r73), (.ref b4), (.int (1 : Int32))])) (fun tgt cont => ?_) ?_
  · refine XS.lloadN X72.here hx rfl (hb hby at_292) rfl ?_
    refine XT.bipushV X72.here hx rfl (15 : Int32) (hb hby at_293) rfl ?_
    refine XS.iload X72.here hx rfl (hb hby at_295) rfl ?_
    exact cont
  -- pc 297: BuilderAddEdgePinLaw.end
  obtain ⟨_, _, ⟨T74, L74, k74, n74⟩, -, X74, ⟨Lc74, hQ74, l74, y74, z74⟩, st74⟩ := Jvm.LawKit.callS X72 hx (y := (⟨"com/example/cyclecut/cyclecut/graph/BuilderAddEdgePinLaw", "end", "(JII)I"⟩ : MethodName)) hown (mvT hZ (hw _ (List.mem_of_getElem? (i := 17) rfl))) (mvT hZ (hw _ (List.mem_of_getElem? (i := 18) rfl))) (mvT hZ (hw _ (List.mem_of_getElem? (i := 19) rfl))) (mvT hZ (hw _ (List.mem_of_getElem? (i := 20) rfl))) (by decide) (backOf (W := 3) (rm3 l Z a0 hw [] p2 (15 : Int32) v1 T67.heap n0 zp67 n4) hZ (hw _ (List.mem_of_getElem? (i := 20) rfl)) (hw _ (List.mem_of_getElem? (i := 19) rfl)) (by decide) (by decide)) (g := (mkF m 297 #[.val (.int p1), .val (.long p2), .second, .val (.int p3), .val (.int p4), .val (.int v1), .val (.int v2), .val (.int v3), .val (.ref b4), .val (.int (1 : Int32)), .unset, .unset] [(.int v1), (.int (15 : Int32)), (.long p2), (.int r73), (.ref b4), (.int (1 : Int32))])) rfl (by rw [hml]; rfl) (argsL := [(.long p2), (.int (15 : Int32)), (.int v1)]) (rest := [(.int r73), (.ref b4), (.int (1 : Int32))]) (lenOf own_pd6 rfl) rfl (by show 2 * 0 + _ ≤ _; exact Nat.le_of_eq rfl) (hb hby at_297) (fun _ _ => ⟨rfl, e72, (by decide : 0 + 1 + 2 + 0 + 0 + 0 + 0 + 0 + 0 + 0 + 0 + 0 + 0 + 0 + 0 + 0 + 0 + 0 + 0 + 0 + 0 + 0 + 0 + 0 + 0 + 0 ≤ _), (by decide : 0 + 4 + 24 + 0 + 0 + 0 + 0 + 0 + 0 + 0 + 0 + 0 + 0 + 0 + 0 + 0 + 0 + 0 + 0 + 0 + 0 + 0 + 0 + 0 + 0 + 0 ≤ _)⟩)
  dsimp only [Pt.U, Pt.locs, Pt.cells, Pt.slots] at X74 l74 y74 z74 st74 hQ74
  subst y74 z74
  obtain ⟨rfl, N74q, e74⟩ := hQ74
  have N74 : Fr n0 L74 := by rw [l74]; exact Fr.app N72 N74q
  refine own_go (fun tgt cont => st74 tgt cont) ?_
  show own_Go p e below s (Q0 n0) room_1.cells room_1.slots (T74.setTop (mkF m 300 #[.val (.int p1), .val (.long p2), .second, .val (.int p3), .val (.int p4), .val (.int v1), .val (.int v2), .val (.int v3), .val (.ref b4), .val (.int (1 : Int32)), .unset, .unset] [(.int (own_end_ p2 (15 : Int32) v1)), (.int r73), (.ref b4), (.int (1 : Int32))]))
  generalize hr75 : (own_end_ p2 (15 : Int32) v1) = r75
  have B_r73 := own_eB n1 hr73
  have B_r75 := own_eB n1 hr75
  -- pc 300: Graph$Builder.addEdge
  obtain ⟨cq76, kq76, qa76, qb76, qc76⟩ := isOf hZ e74 ex67_0
  obtain ⟨_, _, ⟨T76, L76, k76, n76⟩, -, X76, ⟨Lc76, hQ76, l76, y76, z76⟩, st76⟩ := X74.virtualBack hx (y := (⟨"com/example/cyclecut/cyclecut/graph/Graph$Builder", "addEdge", "(II)I"⟩ : MethodName)) (z := (⟨"com/example/cyclecut/cyclecut/graph/Graph$Builder", "addEdge", "(II)I"⟩ : MethodName)) hown (mvT hZ (hw _ (List.mem_of_getElem? (i := 22) rfl))) (mvT hZ (hw _ (List.mem_of_getElem? (i := 23) rfl))) (notFace_of_selects (args := #[]) (mvT hZ (hw _ (List.mem_of_getElem? (i := 25) rfl)))) (mvT hZ (hw _ (List.mem_of_getElem? (i := 25) rfl))) (mvT hZ (hw _ (List.mem_of_getElem? (i := 24) rfl))) (by decide) (backOf (W := 1) (rm4_N l Z a0 hw [] b4 r73 r75 v1 b5_0 b5_1 (7 : Int32) w69 ([r10, r12, r19, r21, r28, r30, r37, r39, r46, r48, r55, r57, r64, r66, (0 : Int32), (0 : Int32)]) T67.heap n0 zp67 ex67_0 fa67_0 fa67_1 fa67_2 fa67_3 g_b4 fa67_4 g_b5_0 al71 g_b5_1 ne_b5_0_b5_1 B_r73.1 B_r73.2.1 B_r75.1 B_r75.2.1 (own_hg7 rfl) (own_c1_7 rfl) (own_c2_7 rfl) (own_dB DG7 B_r73) (own_dB DG7 B_r75)) hZ (hw _ (List.mem_of_getElem? (i := 26) rfl)) (hw _ (List.mem_of_getElem? (i := 3) rfl)) (by decide) (by decide)) qa76 qc76 (g := (mkF m 300 #[.val (.int p1), .val (.long p2), .second, .val (.int p3), .val (.int p4), .val (.int v1), .val (.int v2), .val (.int v3), .val (.ref b4), .val (.int (1 : Int32)), .unset, .unset] [(.int r75), (.int r73), (.ref b4), (.int (1 : Int32))])) rfl (by rw [hml]; rfl) (Steps.refl _) (argsL := [(.int r73), (.int r75)]) (rest := [(.int (1 : Int32))]) (lenOf own_pd1 rfl) rfl (by show 2 * 0 + _ ≤ _; exact Nat.le_of_eq rfl) (hb hby at_300) (fun _ _ => ⟨rfl, e74, (by decide : 0 + 1 + 2 + 0 + 0 + 0 + 0 + 0 + 0 + 0 + 0 + 0 + 0 + 0 + 0 + 0 + 0 + 0 + 0 + 0 + 0 + 0 + 0 + 0 + 0 + 0 + 0 ≤ _), (by decide : 0 + 4 + 24 + 0 + 0 + 0 + 0 + 0 + 0 + 0 + 0 + 0 + 0 + 0 + 0 + 0 + 0 + 0 + 0 + 0 + 0 + 0 + 0 + 0 + 0 + 0 + 0 ≤ _)⟩)
  dsimp only [Pt.U, Pt.locs, Pt.cells, Pt.slots] at X76 l76 y76 z76 st76 hQ76
  subst y76 z76
  obtain ⟨rfl, N76q, K76, ex76_0, fa76_0, fa76_1, fa76_2, fa76_3, fa76_4, fa76_5⟩ := hQ76
  have N76 : Fr n0 L76 := by rw [l76]; exact Fr.app N74 N76q
  have kk76 : Keep h0 T76.heap [] := kk67.trans K76 (allS (Or.inr sz_b4) (allS (Or.inr sz_b5_0) (allS (Or.inr sz_b5_1) all0)))
  have zp76 : n0 ≤ T76.heap.size := Nat.le_trans Z0 kk76.1
  generalize hw77 : (own_ae_edgeCount (7 : Int32)) = w77 at fa76_3
  generalize hw78 : (own_ae_ds r73 r75 w69) = w78 at fa76_4
  generalize hw79 : (own_ae_es r73 r75 (7 : Int32) [r10, r12, r19, r21, r28, r30, r37, r39, r46, r48, r55, r57, r64, r66, (0 : Int32), (0 : Int32)]) = w79 at fa76_5
  refine own_go (fun tgt cont => st76.trans cont) ?_
  show own_Go p e below s (Q0 n0) room_1.cells room_1.slots (T76.setTop (mkF m 303 #[.val (.int p1), .val (.long p2), .second, .val (.int p3), .val (.int p4), .val (.int v1), .val (.int v2), .val (.int v3), .val (.ref b4), .val (.int (1 : Int32)), .unset, .unset] [(.int (7 : Int32)), (.int (1 : Int32))]))
  obtain rfl : w77 = (8 : Int32) := hw77.symm.trans own_ec7
  have DG8 : own_DG [r10, r12, r19, r21, r28, r30, r37, r39, r46, r48, r55, r57, r64, r66, r73, r75] w78 v1.toNatClampNeg := own_DGa DG7 B_r73 B_r75 hw78
  have al80 : own_IA Z T76.heap b5_1 [r10, r12, r19, r21, r28, r30, r37, r39, r46, r48, r55, r57, r64, r66, r73, r75] := fa76_5.cong (hw79.symm.trans (own_es7 ..))
  refine own_go (B := T76.setTop (mkF m 323 #[.val (.int p1), .val (.long p2), .second, .val (.int p3), .val (.int p4), .val (.int v1), .val (.int v2), .val (.int v3), .val (.ref b4), .val (.int (1 : Int32)), .unset, .unset] [(.int (16 : Int32)), (.long p2), (.ref b4), (.int (1 : Int32))])) (fun tgt cont => ?_) ?_
  · refine XT.bipushV X76.here hx rfl (7 : Int32) (hb hby at_303) rfl ?_
    refine XS.icmpNo X76.here hx rfl (hb hby at_305) rfl (XT.ii_ne_f (by first | decide | exact (show (7 : Int32) = (7 : Int32) from by decide))) ?_
    refine XT.iconstV X76.here hx rfl (1 : Int32) (hb hby at_308) rfl ?_
    refine XS.goto X76.here hx rfl (pc0 := 309) (pc' := 313) rfl (hb hby at_309) (by decide) (by decide) ?_
    refine XS.iand X76.here hx rfl (hb hby at_313) rfl ?_
    refine XS.istore X76.here hx rfl (hb hby at_314) rfl (l' := #[.val (.int p1), .val (.long p2), .second, .val (.int p3), .val (.int p4), .val (.int v1), .val (.int v2), .val (.int v3), .val (.ref b4), .val (.int (1 : Int32)), .unset, .unset]) rfl ?_
    refine XS.iload X76.here hx rfl (hb hby at_316) rfl ?_
    refine XS.aload X76.here hx rfl (hb hby at_318) rfl rfl ?_
    refine XS.lloadN X76.here hx rfl (hb hby at_320) rfl ?_
    refine XT.bipushV X76.here hx rfl (16 : Int32) (hb hby at_321) rfl ?_
    exact cont
  refine own_go (B := T76.setTop (mkF m 325 #[.val (.int p1), .val (.long p2), .second, .val (.int p3), .val (.int p4), .val (.int v1), .val (.int v2), .val (.int v3), .val (.ref b4), .val (.int (1 : Int32)), .unset, .unset] [(.int v1), (.int (16 : Int32)), (.long p2), (.ref b4), (.int (1 : Int32))])) (fun tgt cont => ?_) ?_
  · refine XS.iload X76.here hx rfl (hb hby at_323) rfl ?_
    exact cont
  -- pc 325: BuilderAddEdgePinLaw.end
  obtain ⟨_, _, ⟨T81, L81, k81, n81⟩, -, X81, ⟨Lc81, hQ81, l81, y81, z81⟩, st81⟩ := Jvm.LawKit.callS X76 hx (y := (⟨"com/example/cyclecut/cyclecut/graph/BuilderAddEdgePinLaw", "end", "(JII)I"⟩ : MethodName)) hown (mvT hZ (hw _ (List.mem_of_getElem? (i := 17) rfl))) (mvT hZ (hw _ (List.mem_of_getElem? (i := 18) rfl))) (mvT hZ (hw _ (List.mem_of_getElem? (i := 19) rfl))) (mvT hZ (hw _ (List.mem_of_getElem? (i := 20) rfl))) (by decide) (backOf (W := 2) (rm3 l Z a0 hw [] p2 (16 : Int32) v1 T76.heap n0 zp76 n4) hZ (hw _ (List.mem_of_getElem? (i := 20) rfl)) (hw _ (List.mem_of_getElem? (i := 19) rfl)) (by decide) (by decide)) (g := (mkF m 325 #[.val (.int p1), .val (.long p2), .second, .val (.int p3), .val (.int p4), .val (.int v1), .val (.int v2), .val (.int v3), .val (.ref b4), .val (.int (1 : Int32)), .unset, .unset] [(.int v1), (.int (16 : Int32)), (.long p2), (.ref b4), (.int (1 : Int32))])) rfl (by rw [hml]; rfl) (argsL := [(.long p2), (.int (16 : Int32)), (.int v1)]) (rest := [(.ref b4), (.int (1 : Int32))]) (lenOf own_pd6 rfl) rfl (by show 2 * 0 + _ ≤ _; exact Nat.le_of_eq rfl) (hb hby at_325) (fun _ _ => ⟨rfl, rfl, (by decide : 0 + 1 + 2 + 0 + 0 + 0 + 0 + 0 + 0 + 0 + 0 + 0 + 0 + 0 + 0 + 0 + 0 + 0 + 0 + 0 + 0 + 0 + 0 + 0 + 0 + 0 + 0 + 0 ≤ _), (by decide : 0 + 4 + 24 + 0 + 0 + 0 + 0 + 0 + 0 + 0 + 0 + 0 + 0 + 0 + 0 + 0 + 0 + 0 + 0 + 0 + 0 + 0 + 0 + 0 + 0 + 0 + 0 + 0 ≤ _)⟩)
  dsimp only [Pt.U, Pt.locs, Pt.cells, Pt.slots] at X81 l81 y81 z81 st81 hQ81
  subst y81 z81
  obtain ⟨rfl, N81q, e81⟩ := hQ81
  have N81 : Fr n0 L81 := by rw [l81]; exact Fr.app N76 N81q
  refine own_go (fun tgt cont => st81 tgt cont) ?_
  show own_Go p e below s (Q0 n0) room_1.cells room_1.slots (T81.setTop (mkF m 328 #[.val (.int p1), .val (.long p2), .second, .val (.int p3), .val (.int p4), .val (.int v1), .val (.int v2), .val (.int v3), .val (.ref b4), .val (.int (1 : Int32)), .unset, .unset] [(.int (own_end_ p2 (16 : Int32) v1)), (.ref b4), (.int (1 : Int32))]))
  generalize hr82 : (own_end_ p2 (16 : Int32) v1) = r82
  refine own_go (B := T81.setTop (mkF m 333 #[.val (.int p1), .val (.long p2), .second, .val (.int p3), .val (.int p4), .val (.int v1), .val (.int v2), .val (.int v3), .val (.ref b4), .val (.int (1 : Int32)), .unset, .unset] [(.int v1), (.int (17 : Int32)), (.long p2), (.int r82), (.ref b4), (.int (1 : Int32))])) (fun tgt cont => ?_) ?_
  · refine XS.lloadN X81.here hx rfl (hb hby at_328) rfl ?_
    refine XT.bipushV X81.here hx rfl (17 : Int32) (hb hby at_329) rfl ?_
    refine XS.iload X81.here hx rfl (hb hby at_331) rfl ?_
    exact cont
  -- pc 333: BuilderAddEdgePinLaw.end
  obtain ⟨_, _, ⟨T83, L83, k83, n83⟩, -, X83, ⟨Lc83, hQ83, l83, y83, z83⟩, st83⟩ := Jvm.LawKit.callS X81 hx (y := (⟨"com/example/cyclecut/cyclecut/graph/BuilderAddEdgePinLaw", "end", "(JII)I"⟩ : MethodName)) hown (mvT hZ (hw _ (List.mem_of_getElem? (i := 17) rfl))) (mvT hZ (hw _ (List.mem_of_getElem? (i := 18) rfl))) (mvT hZ (hw _ (List.mem_of_getElem? (i := 19) rfl))) (mvT hZ (hw _ (List.mem_of_getElem? (i := 20) rfl))) (by decide) (backOf (W := 3) (rm3 l Z a0 hw [] p2 (17 : Int32) v1 T76.heap n0 zp76 n4) hZ (hw _ (List.mem_of_getElem? (i := 20) rfl)) (hw _ (List.mem_of_getElem? (i := 19) rfl)) (by decide) (by decide)) (g := (mkF m 333 #[.val (.int p1), .val (.long p2), .second, .val (.int p3), .val (.int p4), .val (.int v1), .val (.int v2), .val (.int v3), .val (.ref b4), .val (.int (1 : Int32)), .unset, .unset] [(.int v1), (.int (17 : Int32)), (.long p2), (.int r82), (.ref b4), (.int (1 : Int32))])) rfl (by rw [hml]; rfl) (argsL := [(.long p2), (.int (17 : Int32)), (.int v1)]) (rest := [(.int r82), (.ref b4), (.int (1 : Int32))]) (lenOf own_pd6 rfl) rfl (by show 2 * 0 + _ ≤ _; exact Nat.le_of_eq rfl) (hb hby at_333) (fun _ _ => ⟨rfl, e81, (by decide : 0 + 1 + 2 + 0 + 0 + 0 + 0 + 0 + 0 + 0 + 0 + 0 + 0 + 0 + 0 + 0 + 0 + 0 + 0 + 0 + 0 + 0 + 0 + 0 + 0 + 0 + 0 + 0 + 0 ≤ _), (by decide : 0 + 4 + 24 + 0 + 0 + 0 + 0 + 0 + 0 + 0 + 0 + 0 + 0 + 0 + 0 + 0 + 0 + 0 + 0 + 0 + 0 + 0 + 0 + 0 + 0 + 0 + 0 + 0 + 0 ≤ _)⟩)
  dsimp only [Pt.U, Pt.locs, Pt.cells, Pt.slots] at X83 l83 y83 z83 st83 hQ83
  subst y83 z83
  obtain ⟨rfl, N83q, e83⟩ := hQ83
  have N83 : Fr n0 L83 := by rw [l83]; exact Fr.app N81 N83q
  refine own_go (fun tgt cont => st83 tgt cont) ?_
  show own_Go p e below s (Q0 n0) room_1.cells room_1.slots (T83.setTop (mkF m 336 #[.val (.int p1), .val (.long p2), .second, .val (.int p3), .val (.int p4), .val (.int v1), .val (.int v2), .val (.int v3), .val (.ref b4), .val (.int (1 : Int32)), .unset, .unset] [(.int (own_end_ p2 (17 : Int32) v1)), (.int r82), (.ref b4), (.int (1 : Int32))]))
  generalize hr84 : (own_end_ p2 (17 : Int32) v1) = r84
  have B_r82 := own_eB n1 hr82
  have B_r84 := own_eB n1 hr84
  -- pc 336: Graph$Builder.addEdge
  obtain ⟨cq85, kq85, qa85, qb85, qc85⟩ := isOf hZ e83 ex76_0
  obtain ⟨_, _, ⟨T85, L85, k85, n85⟩, -, X85, ⟨Lc85, hQ85, l85, y85, z85⟩, st85⟩ := X83.virtualBack hx (y := (⟨"com/example/cyclecut/cyclecut/graph/Graph$Builder", "addEdge", "(II)I"⟩ : MethodName)) (z := (⟨"com/example/cyclecut/cyclecut/graph/Graph$Builder", "addEdge", "(II)I"⟩ : MethodName)) hown (mvT hZ (hw _ (List.mem_of_getElem? (i := 22) rfl))) (mvT hZ (hw _ (List.mem_of_getElem? (i := 23) rfl))) (notFace_of_selects (args := #[]) (mvT hZ (hw _ (List.mem_of_getElem? (i := 25) rfl)))) (mvT hZ (hw _ (List.mem_of_getElem? (i := 25) rfl))) (mvT hZ (hw _ (List.mem_of_getElem? (i := 24) rfl))) (by decide) (backOf (W := 1) (rm4_G l Z a0 hw [] b4 r82 r84 v1 b5_0 b5_1 w78 r10 r12 r19 r21 r28 r30 r37 r39 r46 r48 r55 r57 r64 r66 r73 r75 T76.heap n0 zp76 ex76_0 fa76_0 fa76_1 fa76_2 fa76_3 g_b4 fa76_4 g_b5_0 al80 ne_b5_0_b5_1 B_r82.1 B_r82.2.1 B_r84.1 B_r84.2.1 (own_dB DG8 B_r82) (own_dB DG8 B_r84)) hZ (hw _ (List.mem_of_getElem? (i := 26) rfl)) (hw _ (List.mem_of_getElem? (i := 3) rfl)) (by decide) (by decide)) qa85 qc85 (g := (mkF m 336 #[.val (.int p1), .val (.long p2), .second, .val (.int p3), .val (.int p4), .val (.int v1), .val (.int v2), .val (.int v3), .val (.ref b4), .val (.int (1 : Int32)), .unset, .unset] [(.int r84), (.int r82), (.ref b4), (.int (1 : Int32))])) rfl (by rw [hml]; rfl) (Steps.refl _) (argsL := [(.int r82), (.int r84)]) (rest := [(.int (1 : Int32))]) (lenOf own_pd1 rfl) rfl (by show 2 * 0 + _ ≤ _; exact Nat.le_of_eq rfl) (hb hby at_336) (fun _ _ => ⟨rfl, e83, (by decide : 0 + 1 + 2 + 0 + 0 + 0 + 0 + 0 + 0 + 0 + 0 + 0 + 0 + 0 + 0 + 0 + 0 + 0 + 0 + 0 + 0 + 0 + 0 + 0 + 0 + 0 + 0 + 0 + 0 + 1 ≤ _), (by decide : 0 + 4 + 24 + 0 + 0 + 0 + 0 + 0 + 0 + 0 + 0 + 0 + 0 + 0 + 0 + 0 + 0 + 0 + 0 + 0 + 0 + 0 + 0 + 0 + 0 + 0 + 0 + 0 + 0 + 32 ≤ _)⟩)
  dsimp only [Pt.U, Pt.locs, Pt.cells, Pt.slots] at X85 l85 y85 z85 st85 hQ85
  subst y85 z85
  have f86 := ((((((((eb5_0.keep K13).keep K22).keep K31).keep K40).keep K49).keep K58).keep K67).keep K76)
  have f87 := ((((((((eb5_1.keep K13).keep K22).keep K31).keep K40).keep K49).keep K58).keep K67).keep K76)
  obtain ⟨b85_0, rfl, N85q, K85, ex85_0, fa85_0, fa85_1, fa85_2, fa85_3, fa85_4, gb85_0, ab85_0, eb85_0⟩ := hQ85
  have N85 : Fr n0 L85 := by rw [l85]; exact Fr.app N83 N85q
  have g_b85_0 : n0 ≤ b85_0 := Nat.le_trans zp76 gb85_0
  have sz_b85_0 : h0.size ≤ b85_0 := Nat.le_trans kk76.1 gb85_0
  have ne_b4_b85_0 : b4 ≠ b85_0 := Nat.ne_of_lt (Nat.lt_of_lt_of_le ex76_0.lt gb85_0)
  have ne_b5_0_b85_0 : b5_0 ≠ b85_0 := Nat.ne_of_lt (Nat.lt_of_lt_of_le f86.lt gb85_0)
  have ne_b5_1_b85_0 : b5_1 ≠ b85_0 := Nat.ne_of_lt (Nat.lt_of_lt_of_le f87.lt gb85_0)
  have kk85 : Keep h0 T85.heap [] := kk76.trans K85 (allS (Or.inr sz_b4) (allS (Or.inr sz_b5_0) all0))
  have zp85 : n0 ≤ T85.heap.size := Nat.le_trans Z0 kk85.1
  generalize hw88 : (own_ag_ends r82 r84 r10 r12 r19 r21 r28 r30 r37 r39 r46 r48 r55 r57 r64 r66 r73 r75) = w88 at ab85_0
  generalize hw89 : (own_ag_ds r82 r84 w78) = w89 at fa85_4
  refine own_go (fun tgt cont => st85.trans cont) ?_
  show own_Go p e below s (Q0 n0) room_1.cells room_1.slots (T85.setTop (mkF m 339 #[.val (.int p1), .val (.long p2), .second, .val (.int p3), .val (.int p4), .val (.int v1), .val (.int v2), .val (.int v3), .val (.ref b4), .val (.int (1 : Int32)), .unset, .unset] [(.int (8 : Int32)), (.int (1 : Int32))]))
  have DG9 : own_DG [r10, r12, r19, r21, r28, r30, r37, r39, r46, r48, r55, r57, r64, r66, r73, r75, r82, r84] w89 v1.toNatClampNeg := own_DGg DG8 B_r82 B_r84 hw89
  have al90 : own_IA Z T85.heap b85_0 [r10, r12, r19, r21, r28, r30, r37, r39, r46, r48, r55, r57, r64, r66, r73, r75, r82, r84, (0 : Int32), (0 : Int32), (0 : Int32), (0 : Int32), (0 : Int32), (0 : Int32), (0 : Int32), (0 : Int32), (0 : Int32), (0 : Int32), (0 : Int32), (0 : Int32), (0 : Int32), (0 : Int32)] := ab85_0.cong (hw88.symm.trans rfl)
  refine own_go (B := T85.setTop (mkF m 358 #[.val (.int p1), .val (.long p2), .second, .val (.int p3), .val (.int p4), .val (.int v1), .val (.int v2), .val (.int v3), .val (.ref b4), .val (.int (1 : Int32)), .unset, .unset] [(.int v2), (.int v1), (.int (0 : Int32)), (.long p2)])) (fun tgt cont => ?_) ?_
  · refine XT.bipushV X85.here hx rfl (8 : Int32) (hb hby at_339) rfl ?_
    refine XS.icmpNo X85.here hx rfl (hb hby at_341) rfl (XT.ii_ne_f (by first | decide | exact (show (8 : Int32) = (8 : Int32) from by decide))) ?_
    refine XT.iconstV X85.here hx rfl (1 : Int32) (hb hby at_344) rfl ?_
    refine XS.goto X85.here hx rfl (pc0 := 345) (pc' := 349) rfl (hb hby at_345) (by decide) (by decide) ?_
    refine XS.iand X85.here hx rfl (hb hby at_349) rfl ?_
    refine XS.istore X85.here hx rfl (hb hby at_350) rfl (l' := #[.val (.int p1), .val (.long p2), .second, .val (.int p3), .val (.int p4), .val (.int v1), .val (.int v2), .val (.int v3), .val (.ref b4), .val (.int (1 : Int32)), .unset, .unset]) rfl ?_
    refine XS.lloadN X85.here hx rfl (hb hby at_352) rfl ?_
    refine XT.iconstV X85.here hx rfl (0 : Int32) (hb hby at_353) rfl ?_
    refine XS.iload X85.here hx rfl (hb hby at_354) rfl ?_
    refine XS.iload X85.here hx rfl (hb hby at_356) rfl ?_
    exact cont
  -- pc 358: BuilderAddEdgePinLaw.hit
  obtain ⟨_, _, ⟨T91, L91, k91, n91⟩, -, X91, ⟨Lc91, hQ91, l91, y91, z91⟩, st91⟩ := Jvm.LawKit.callS X85 hx (y := (⟨"com/example/cyclecut/cyclecut/graph/BuilderAddEdgePinLaw", "hit", "(JIII)I"⟩ : MethodName)) hown (mvT hZ (hw _ (List.mem_of_getElem? (i := 55) rfl))) (mvT hZ (hw _ (List.mem_of_getElem? (i := 56) rfl))) (mvT hZ (hw _ (List.mem_of_getElem? (i := 19) rfl))) (mvT hZ (hw _ (List.mem_of_getElem? (i := 57) rfl))) (by decide) (backOf (W := 0) (rm10 l Z a0 hw [] p2 (0 : Int32) v1 v2 T85.heap n0 zp85 n4) hZ (hw _ (List.mem_of_getElem? (i := 57) rfl)) (hw _ (List.mem_of_getElem? (i := 19) rfl)) (by decide) (by decide)) (g := (mkF m 358 #[.val (.int p1), .val (.long p2), .second, .val (.int p3), .val (.int p4), .val (.int v1), .val (.int v2), .val (.int v3), .val (.ref b4), .val (.int (1 : Int32)), .unset, .unset] [(.int v2), (.int v1), (.int (0 : Int32)), (.long p2)])) rfl (by rw [hml]; rfl) (argsL := [(.long p2), (.int (0 : Int32)), (.int v1), (.int v2)]) (rest := []) (lenOf own_pd8 rfl) rfl (by show 2 * 0 + _ ≤ _; exact Nat.le_of_eq rfl) (hb hby at_358) (fun _ _ => ⟨rfl, rfl, (by decide : 0 + 1 + 2 + 0 + 0 + 0 + 0 + 0 + 0 + 0 + 0 + 0 + 0 + 0 + 0 + 0 + 0 + 0 + 0 + 0 + 0 + 0 + 0 + 0 + 0 + 0 + 0 + 0 + 0 + 1 + 0 ≤ _), (by decide : 0 + 4 + 24 + 0 + 0 + 0 + 0 + 0 + 0 + 0 + 0 + 0 + 0 + 0 + 0 + 0 + 0 + 0 + 0 + 0 + 0 + 0 + 0 + 0 + 0 + 0 + 0 + 0 + 0 + 32 + 0 ≤ _)⟩)
  dsimp only [Pt.U, Pt.locs, Pt.cells, Pt.slots] at X91 l91 y91 z91 st91 hQ91
  subst y91 z91
  obtain ⟨rfl, N91q, e91⟩ := hQ91
  have N91 : Fr n0 L91 := by rw [l91]; exact Fr.app N85 N91q
  refine own_go (fun tgt cont => st91 tgt cont) ?_
  show own_Go p e below s (Q0 n0) room_1.cells room_1.slots (T91.setTop (mkF m 361 #[.val (.int p1), .val (.long p2), .second, .val (.int p3), .val (.int p4), .val (.int v1), .val (.int v2), .val (.int v3), .val (.ref b4), .val (.int (1 : Int32)), .unset, .unset] [(.int (own_hit p2 (0 : Int32) v1 v2))]))
  generalize hr92 : (own_hit p2 (0 : Int32) v1 v2) = r92
  refine own_go (B := T91.setTop (mkF m 367 #[.val (.int p1), .val (.long p2), .second, .val (.int p3), .val (.int p4), .val (.int v1), .val (.int v2), .val (.int v3), .val (.ref b4), .val (.int (1 : Int32)), .unset, .unset] [(.int v2), (.int v1), (.int (1 : Int32)), (.long p2), (.int r92)])) (fun tgt cont => ?_) ?_
  · refine XS.lloadN X91.here hx rfl (hb hby at_361) rfl ?_
    refine XT.iconstV X91.here hx rfl (1 : Int32) (hb hby at_362) rfl ?_
    refine XS.iload X91.here hx rfl (hb hby at_363) rfl ?_
    refine XS.iload X91.here hx rfl (hb hby at_365) rfl ?_
    exact cont
  -- pc 367: BuilderAddEdgePinLaw.hit
  obtain ⟨_, _, ⟨T93, L93, k93, n93⟩, -, X93, ⟨Lc93, hQ93, l93, y93, z93⟩, st93⟩ := Jvm.LawKit.callS X91 hx (y := (⟨"com/example/cyclecut/cyclecut/graph/BuilderAddEdgePinLaw", "hit", "(JIII)I"⟩ : MethodName)) hown (mvT hZ (hw _ (List.mem_of_getElem? (i := 55) rfl))) (mvT hZ (hw _ (List.mem_of_getElem? (i := 56) rfl))) (mvT hZ (hw _ (List.mem_of_getElem? (i := 19) rfl))) (mvT hZ (hw _ (List.mem_of_getElem? (i := 57) rfl))) (by decide) (backOf (W := 1) (rm10 l Z a0 hw [] p2 (1 : Int32) v1 v2 T85.heap n0 zp85 n4) hZ (hw _ (List.mem_of_getElem? (i := 57) rfl)) (hw _ (List.mem_of_getElem? (i := 19) rfl)) (by decide) (by decide)) (g := (mkF m 367 #[.val (.int p1), .val (.long p2), .second, .val (.int p3), .val (.int p4), .val (.int v1), .val (.int v2), .val (.int v3), .val (.ref b4), .val (.int (1 : Int32)), .unset, .unset] [(.int v2), (.int v1), (.int (1 : Int32)), (.long p2), (.int r92)])) rfl (by rw [hml]; rfl) (argsL := [(.long p2), (.int (1 : Int32)), (.int v1), (.int v2)]) (rest := [(.int r92)]) (lenOf own_pd8 rfl) rfl (by show 2 * 0 + _ ≤ _; exact Nat.le_of_eq rfl) (hb hby at_367) (fun _ _ => ⟨rfl, e91, (by decide : 0 + 1 + 2 + 0 + 0 + 0 + 0 + 0 + 0 + 0 + 0 + 0 + 0 + 0 + 0 + 0 + 0 + 0 + 0 + 0 + 0 + 0 + 0 + 0 + 0 + 0 + 0 + 0 + 0 + 1 + 0 + 0 ≤ _), (by decide : 0 + 4 + 24 + 0 + 0 + 0 + 0 + 0 + 0 + 0 + 0 + 0 + 0 + 0 + 0 + 0 + 0 + 0 + 0 + 0 + 0 + 0 + 0 + 0 + 0 + 0 + 0 + 0 + 0 + 32 + 0 + 0 ≤ _)⟩)
  dsimp only [Pt.U, Pt.locs, Pt.cells, Pt.slots] at X93 l93 y93 z93 st93 hQ93
  subst y93 z93
  obtain ⟨rfl, N93q, e93⟩ := hQ93
  have N93 : Fr n0 L93 := by rw [l93]; exact Fr.app N91 N93q
  refine own_go (fun tgt cont => st93 tgt cont) ?_
  show own_Go p e below s (Q0 n0) room_1.cells room_1.slots (T93.setTop (mkF m 370 #[.val (.int p1), .val (.long p2), .second, .val (.int p3), .val (.int p4), .val (.int v1), .val (.int v2), .val (.int v3), .val (.ref b4), .val (.int (1 : Int32)), .unset, .unset] [(.int (own_hit p2 (1 : Int32) v1 v2)), (.int r92)]))
  generalize hr94 : (own_hit p2 (1 : Int32) v1 v2) = r94
  refine own_go (B := T93.setTop (mkF m 377 #[.val (.int p1), .val (.long p2), .second, .val (.int p3), .val (.int p4), .val (.int v1), .val (.int v2), .val (.int v3), .val (.ref b4), .val (.int (1 : Int32)), .unset, .unset] [(.int v2), (.int v1), (.int (2 : Int32)), (.long p2), (.int (r92 + r94))])) (fun tgt cont => ?_) ?_
  · refine XS.iadd X93.here hx rfl (hb hby at_370) rfl ?_
    refine XS.lloadN X93.here hx rfl (hb hby at_371) rfl ?_
    refine XT.iconstV X93.here hx rfl (2 : Int32) (hb hby at_372) rfl ?_
    refine XS.iload X93.here hx rfl (hb hby at_373) rfl ?_
    refine XS.iload X93.here hx rfl (hb hby at_375) rfl ?_
    exact cont
  -- pc 377: BuilderAddEdgePinLaw.hit
  obtain ⟨_, _, ⟨T95, L95, k95, n95⟩, -, X95, ⟨Lc95, hQ95, l95, y95, z95⟩, st95⟩ := Jvm.LawKit.callS X93 hx (y := (⟨"com/example/cyclecut/cyclecut/graph/BuilderAddEdgePinLaw", "hit", "(JIII)I"⟩ : MethodName)) hown (mvT hZ (hw _ (List.mem_of_getElem? (i := 55) rfl))) (mvT hZ (hw _ (List.mem_of_getElem? (i := 56) rfl))) (mvT hZ (hw _ (List.mem_of_getElem? (i := 19) rfl))) (mvT hZ (hw _ (List.mem_of_getElem? (i := 57) rfl))) (by decide) (backOf (W := 1) (rm10 l Z a0 hw [] p2 (2 : Int32) v1 v2 T85.heap n0 zp85 n4) hZ (hw _ (List.mem_of_getElem? (i := 57) rfl)) (hw _ (List.mem_of_getElem? (i := 19) rfl)) (by decide) (by decide)) (g := (mkF m 377 #[.val (.int p1), .val (.long p2), .second, .val (.int p3), .val (.int p4), .val (.int v1), .val (.int v2), .val (.int v3), .val (.ref b4), .val (.int (1 : Int32)), .unset, .unset] [(.int v2), (.int v1), (.int (2 : Int32)), (.long p2), (.int (r92 + r94))])) rfl (by rw [hml]; rfl) (argsL := [(.long p2), (.int (2 : Int32)), (.int v1), (.int v2)]) (rest := [(.int (r92 + r94))]) (lenOf own_pd8 rfl) rfl (by show 2 * 0 + _ ≤ _; exact Nat.le_of_eq rfl) (hb hby at_377) (fun _ _ => ⟨rfl, e93, (by decide : 0 + 1 + 2 + 0 + 0 + 0 + 0 + 0 + 0 + 0 + 0 + 0 + 0 + 0 + 0 + 0 + 0 + 0 + 0 + 0 + 0 + 0 + 0 + 0 + 0 + 0 + 0 + 0 + 0 + 1 + 0 + 0 + 0 ≤ _), (by decide : 0 + 4 + 24 + 0 + 0 + 0 + 0 + 0 + 0 + 0 + 0 + 0 + 0 + 0 + 0 + 0 + 0 + 0 + 0 + 0 + 0 + 0 + 0 + 0 + 0 + 0 + 0 + 0 + 0 + 32 + 0 + 0 + 0 ≤ _)⟩)
  dsimp only [Pt.U, Pt.locs, Pt.cells, Pt.slots] at X95 l95 y95 z95 st95 hQ95
  subst y95 z95
  obtain ⟨rfl, N95q, e95⟩ := hQ95
  have N95 : Fr n0 L95 := by rw [l95]; exact Fr.app N93 N95q
  refine own_go (fun tgt cont => st95 tgt cont) ?_
  show own_Go p e below s (Q0 n0) room_1.cells room_1.slots (T95.setTop (mkF m 380 #[.val (.int p1), .val (.long p2), .second, .val (.int p3), .val (.int p4), .val (.int v1), .val (.int v2), .val (.int v3), .val (.ref b4), .val (.int (1 : Int32)), .unset, .unset] [(.int (own_hit p2 (2 : Int32) v1 v2)), (.int (r92 + r94))]))
  generalize hr96 : (own_hit p2 (2 : Int32) v1 v2) = r96
  refine own_go (B := T95.setTop (mkF m 387 #[.val (.int p1), .val (.long p2), .second, .val (.int p3), .val (.int p4), .val (.int v1), .val (.int v2), .val (.int v3), .val (.ref b4), .val (.int (1 : Int32)), .unset, .unset] [(.int v2), (.int v1), (.int (3 : Int32)), (.long p2), (.int ((r92 + r94) + r96))])) (fun tgt cont => ?_) ?_
  · refine XS.iadd X95.here hx rfl (hb hby at_380) rfl ?_
    refine XS.lloadN X95.here hx rfl (hb hby at_381) rfl ?_
    refine XT.iconstV X95.here hx rfl (3 : Int32) (hb hby at_382) rfl ?_
    refine XS.iload X95.here hx rfl (hb hby at_383) rfl ?_
    refine XS.iload X95.here hx rfl (hb hby at_385) rfl ?_
    exact cont
  -- pc 387: BuilderAddEdgePinLaw.hit
  obtain ⟨_, _, ⟨T97, L97, k97, n97⟩, -, X97, ⟨Lc97, hQ97, l97, y97, z97⟩, st97⟩ := Jvm.LawKit.callS X95 hx (y := (⟨"com/example/cyclecut/cyclecut/graph/BuilderAddEdgePinLaw", "hit", "(JIII)I"⟩ : MethodName)) hown (mvT hZ (hw _ (List.mem_of_getElem? (i := 55) rfl))) (mvT hZ (hw _ (List.mem_of_getElem? (i := 56) rfl))) (mvT hZ (hw _ (List.mem_of_getElem? (i := 19) rfl))) (mvT hZ (hw _ (List.mem_of_getElem? (i := 57) rfl))) (by decide) (backOf (W := 1) (rm10 l Z a0 hw [] p2 (3 : Int32) v1 v2 T85.heap n0 zp85 n4) hZ (hw _ (List.mem_of_getElem? (i := 57) rfl)) (hw _ (List.mem_of_getElem? (i := 19) rfl)) (by decide) (by decide)) (g := (mkF m 387 #[.val (.int p1), .val (.long p2), .second, .val (.int p3), .val (.int p4), .val (.int v1), .val (.int v2), .val (.int v3), .val (.ref b4), .val (.int (1 : Int32)), .unset, .unset] [(.int v2), (.int v1), (.int (3 : Int32)), (.long p2), (.int ((r92 + r94) + r96))])) rfl (by rw [hml]; rfl) (argsL := [(.long p2), (.int (3 : Int32)), (.int v1), (.int v2)]) (rest := [(.int ((r92 + r94) + r96))]) (lenOf own_pd8 rfl) rfl (by show 2 * 0 + _ ≤ _; exact Nat.le_of_eq rfl) (hb hby at_387) (fun _ _ => ⟨rfl, e95, (by decide : 0 + 1 + 2 + 0 + 0 + 0 + 0 + 0 + 0 + 0 + 0 + 0 + 0 + 0 + 0 + 0 + 0 + 0 + 0 + 0 + 0 + 0 + 0 + 0 + 0 + 0 + 0 + 0 + 0 + 1 + 0 + 0 + 0 + 0 ≤ _), (by decide : 0 + 4 + 24 + 0 + 0 + 0 + 0 + 0 + 0 + 0 + 0 + 0 + 0 + 0 + 0 + 0 + 0 + 0 + 0 + 0 + 0 + 0 + 0 + 0 + 0 + 0 + 0 + 0 + 0 + 32 + 0 + 0 + 0 + 0 ≤ _)⟩)
  dsimp only [Pt.U, Pt.locs, Pt.cells, Pt.slots] at X97 l97 y97 z97 st97 hQ97
  subst y97 z97
  obtain ⟨rfl, N97q, e97⟩ := hQ97
  have N97 : Fr n0 L97 := by rw [l97]; exact Fr.app N95 N97q
  refine own_go (fun tgt cont => st97 tgt cont) ?_
  show own_Go p e below s (Q0 n0) room_1.cells room_1.slots (T97.setTop (mkF m 390 #[.val (.int p1), .val (.long p2), .second, .val (.int p3), .val (.int p4), .val (.int v1), .val (.int v2), .val (.int v3), .val (.ref b4), .val (.int (1 : Int32)), .unset, .unset] [(.int (own_hit p2 (3 : Int32) v1 v2)), (.int ((r92 + r94) + r96))]))
  generalize hr98 : (own_hit p2 (3 : Int32) v1 v2) = r98
  refine own_go (B := T97.setTop (mkF m 397 #[.val (.int p1), .val (.long p2), .second, .val (.int p3), .val (.int p4), .val (.int v1), .val (.int v2), .val (.int v3), .val (.ref b4), .val (.int (1 : Int32)), .unset, .unset] [(.int v2), (.int v1), (.int (4 : Int32)), (.long p2), (.int (((r92 + r94) + r96) + r98))])) (fun tgt cont => ?_) ?_
  · refine XS.iadd X97.here hx rfl (hb hby at_390) rfl ?_
    refine XS.lloadN X97.here hx rfl (hb hby at_391) rfl ?_
    refine XT.iconstV X97.here hx rfl (4 : Int32) (hb hby at_392) rfl ?_
    refine XS.iload X97.here hx rfl (hb hby at_393) rfl ?_
    refine XS.iload X97.here hx rfl (hb hby at_395) rfl ?_
    exact cont
  -- pc 397: BuilderAddEdgePinLaw.hit
  obtain ⟨_, _, ⟨T99, L99, k99, n99⟩, -, X99, ⟨Lc99, hQ99, l99, y99, z99⟩, st99⟩ := Jvm.LawKit.callS X97 hx (y := (⟨"com/example/cyclecut/cyclecut/graph/BuilderAddEdgePinLaw", "hit", "(JIII)I"⟩ : MethodName)) hown (mvT hZ (hw _ (List.mem_of_getElem? (i := 55) rfl))) (mvT hZ (hw _ (List.mem_of_getElem? (i := 56) rfl))) (mvT hZ (hw _ (List.mem_of_getElem? (i := 19) rfl))) (mvT hZ (hw _ (List.mem_of_getElem? (i := 57) rfl))) (by decide) (backOf (W := 1) (rm10 l Z a0 hw [] p2 (4 : Int32) v1 v2 T85.heap n0 zp85 n4) hZ (hw _ (List.mem_of_getElem? (i := 57) rfl)) (hw _ (List.mem_of_getElem? (i := 19) rfl)) (by decide) (by decide)) (g := (mkF m 397 #[.val (.int p1), .val (.long p2), .second, .val (.int p3), .val (.int p4), .val (.int v1), .val (.int v2), .val (.int v3), .val (.ref b4), .val (.int (1 : Int32)), .unset, .unset] [(.int v2), (.int v1), (.int (4 : Int32)), (.long p2), (.int (((r92 + r94) + r96) + r98))])) rfl (by rw [hml]; rfl) (argsL := [(.long p2), (.int (4 : Int32)), (.int v1), (.int v2)]) (rest := [(.int (((r92 + r94) + r96) + r98))]) (lenOf own_pd8 rfl) rfl (by show 2 * 0 + _ ≤ _; exact Nat.le_of_eq rfl) (hb hby at_397) (fun _ _ => ⟨rfl, e97, (by decide : 0 + 1 + 2 + 0 + 0 + 0 + 0 + 0 + 0 + 0 + 0 + 0 + 0 + 0 + 0 + 0 + 0 + 0 + 0 + 0 + 0 + 0 + 0 + 0 + 0 + 0 + 0 + 0 + 0 + 1 + 0 + 0 + 0 + 0 + 0 ≤ _), (by decide : 0 + 4 + 24 + 0 + 0 + 0 + 0 + 0 + 0 + 0 + 0 + 0 + 0 + 0 + 0 + 0 + 0 + 0 + 0 + 0 + 0 + 0 + 0 + 0 + 0 + 0 + 0 + 0 + 0 + 32 + 0 + 0 + 0 + 0 + 0 ≤ _)⟩)
  dsimp only [Pt.U, Pt.locs, Pt.cells, Pt.slots] at X99 l99 y99 z99 st99 hQ99
  subst y99 z99
  obtain ⟨rfl, N99q, e99⟩ := hQ99
  have N99 : Fr n0 L99 := by rw [l99]; exact Fr.app N97 N99q
  refine own_go (fun tgt cont => st99 tgt cont) ?_
  show own_Go p e below s (Q0 n0) room_1.cells room_1.slots (T99.setTop (mkF m 400 #[.val (.int p1), .val (.long p2), .second, .val (.int p3), .val (.int p4), .val (.int v1), .val (.int v2), .val (.int v3), .val (.ref b4), .val (.int (1 : Int32)), .unset, .unset] [(.int (own_hit p2 (4 : Int32) v1 v2)), (.int (((r92 + r94) + r96) + r98))]))
  generalize hr100 : (own_hit p2 (4 : Int32) v1 v2) = r100
  refine own_go (B := T99.setTop (mkF m 407 #[.val (.int p1), .val (.long p2), .second, .val (.int p3), .val (.int p4), .val (.int v1), .val (.int v2), .val (.int v3), .val (.ref b4), .val (.int (1 : Int32)), .unset, .unset] [(.int v2), (.int v1), (.int (5 : Int32)), (.long p2), (.int ((((r92 + r94) + r96) + r98) + r100))])) (fun tgt cont => ?_) ?_
  · refine XS.iadd X99.here hx rfl (hb hby at_400) rfl ?_
    refine XS.lloadN X99.here hx rfl (hb hby at_401) rfl ?_
    refine XT.iconstV X99.here hx rfl (5 : Int32) (hb hby at_402) rfl ?_
    refine XS.iload X99.here hx rfl (hb hby at_403) rfl ?_
    refine XS.iload X99.here hx rfl (hb hby at_405) rfl ?_
    exact cont
  -- pc 407: BuilderAddEdgePinLaw.hit
  obtain ⟨_, _, ⟨T101, L101, k101, n101⟩, -, X101, ⟨Lc101, hQ101, l101, y101, z101⟩, st101⟩ := Jvm.LawKit.callS X99 hx (y := (⟨"com/example/cyclecut/cyclecut/graph/BuilderAddEdgePinLaw", "hit", "(JIII)I"⟩ : MethodName)) hown (mvT hZ (hw _ (List.mem_of_getElem? (i := 55) rfl))) (mvT hZ (hw _ (List.mem_of_getElem? (i := 56) rfl))) (mvT hZ (hw _ (List.mem_of_getElem? (i := 19) rfl))) (mvT hZ (hw _ (List.mem_of_getElem? (i := 57) rfl))) (by decide) (backOf (W := 1) (rm10 l Z a0 hw [] p2 (5 : Int32) v1 v2 T85.heap n0 zp85 n4) hZ (hw _ (List.mem_of_getElem? (i := 57) rfl)) (hw _ (List.mem_of_getElem? (i := 19) rfl)) (by decide) (by decide)) (g := (mkF m 407 #[.val (.int p1), .val (.long p2), .second, .val (.int p3), .val (.int p4), .val (.int v1), .val (.int v2), .val (.int v3), .val (.ref b4), .val (.int (1 : Int32)), .unset, .unset] [(.int v2), (.int v1), (.int (5 : Int32)), (.long p2), (.int ((((r92 + r94) + r96) + r98) + r100))])) rfl (by rw [hml]; rfl) (argsL := [(.long p2), (.int (5 : Int32)), (.int v1), (.int v2)]) (rest := [(.int ((((r92 + r94) + r96) + r98) + r100))]) (lenOf own_pd8 rfl) rfl (by show 2 * 0 + _ ≤ _; exact Nat.le_of_eq rfl) (hb hby at_407) (fun _ _ => ⟨rfl, e99, (by decide : 0 + 1 + 2 + 0 + 0 + 0 + 0 + 0 + 0 + 0 + 0 + 0 + 0 + 0 + 0 + 0 + 0 + 0 + 0 + 0 + 0 + 0 + 0 + 0 + 0 + 0 + 0 + 0 + 0 + 1 + 0 + 0 + 0 + 0 + 0 + 0 ≤ _), (by decide : 0 + 4 + 24 + 0 + 0 + 0 + 0 + 0 + 0 + 0 + 0 + 0 + 0 + 0 + 0 + 0 + 0 + 0 + 0 + 0 + 0 + 0 + 0 + 0 + 0 + 0 + 0 + 0 + 0 + 32 + 0 + 0 + 0 + 0 + 0 + 0 ≤ _)⟩)
  dsimp only [Pt.U, Pt.locs, Pt.cells, Pt.slots] at X101 l101 y101 z101 st101 hQ101
  subst y101 z101
  obtain ⟨rfl, N101q, e101⟩ := hQ101
  have N101 : Fr n0 L101 := by rw [l101]; exact Fr.app N99 N101q
  refine own_go (fun tgt cont => st101 tgt cont) ?_
  show own_Go p e below s (Q0 n0) room_1.cells room_1.slots (T101.setTop (mkF m 410 #[.val (.int p1), .val (.long p2), .second, .val (.int p3), .val (.int p4), .val (.int v1), .val (.int v2), .val (.int v3), .val (.ref b4), .val (.int (1 : Int32)), .unset, .unset] [(.int (own_hit p2 (5 : Int32) v1 v2)), (.int ((((r92 + r94) + r96) + r98) + r100))]))
  generalize hr102 : (own_hit p2 (5 : Int32) v1 v2) = r102
  refine own_go (B := T101.setTop (mkF m 418 #[.val (.int p1), .val (.long p2), .second, .val (.int p3), .val (.int p4), .val (.int v1), .val (.int v2), .val (.int v3), .val (.ref b4), .val (.int (1 : Int32)), .unset, .unset] [(.int v2), (.int v1), (.int (6 : Int32)), (.long p2), (.int (((((r92 + r94) + r96) + r98) + r100) + r102))])) (fun tgt cont => ?_) ?_
  · refine XS.iadd X101.here hx rfl (hb hby at_410) rfl ?_
    refine XS.lloadN X101.here hx rfl (hb hby at_411) rfl ?_
    refine XT.bipushV X101.here hx rfl (6 : Int32) (hb hby at_412) rfl ?_
    refine XS.iload X101.here hx rfl (hb hby at_414) rfl ?_
    refine XS.iload X101.here hx rfl (hb hby at_416) rfl ?_
    exact cont
  -- pc 418: BuilderAddEdgePinLaw.hit
  obtain ⟨_, _, ⟨T103, L103, k103, n103⟩, -, X103, ⟨Lc103, hQ103, l103, y103, z103⟩, st103⟩ := Jvm.LawKit.callS X101 hx (y := (⟨"com/example/cyclecut/cyclecut/graph/BuilderAddEdgePinLaw", "hit", "(JIII)I"⟩ : MethodName)) hown (mvT hZ (hw _ (List.mem_of_getElem? (i := 55) rfl))) (mvT hZ (hw _ (List.mem_of_getElem? (i := 56) rfl))) (mvT hZ (hw _ (List.mem_of_getElem? (i := 19) rfl))) (mvT hZ (hw _ (List.mem_of_getElem? (i := 57) rfl))) (by decide) (backOf (W := 1) (rm10 l Z a0 hw [] p2 (6 : Int32) v1 v2 T85.heap n0 zp85 n4) hZ (hw _ (List.mem_of_getElem? (i := 57) rfl)) (hw _ (List.mem_of_getElem? (i := 19) rfl)) (by decide) (by decide)) (g := (mkF m 418 #[.val (.int p1), .val (.long p2), .second, .val (.int p3), .val (.int p4), .val (.int v1), .val (.int v2), .val (.int v3), .val (.ref b4), .val (.int (1 : Int32)), .unset, .unset] [(.int v2), (.int v1), (.int (6 : Int32)), (.long p2), (.int (((((r92 + r94) + r96) + r98) + r100) + r102))])) rfl (by rw [hml]; rfl) (argsL := [(.long p2), (.int (6 : Int32)), (.int v1), (.int v2)]) (rest := [(.int (((((r92 + r94) + r96) + r98) + r100) + r102))]) (lenOf own_pd8 rfl) rfl (by show 2 * 0 + _ ≤ _; exact Nat.le_of_eq rfl) (hb hby at_418) (fun _ _ => ⟨rfl, e101, (by decide : 0 + 1 + 2 + 0 + 0 + 0 + 0 + 0 + 0 + 0 + 0 + 0 + 0 + 0 + 0 + 0 + 0 + 0 + 0 + 0 + 0 + 0 + 0 + 0 + 0 + 0 + 0 + 0 + 0 + 1 + 0 + 0 + 0 + 0 + 0 + 0 + 0 ≤ _), (by decide : 0 + 4 + 24 + 0 + 0 + 0 + 0 + 0 + 0 + 0 + 0 + 0 + 0 + 0 + 0 + 0 + 0 + 0 + 0 + 0 + 0 + 0 + 0 + 0 + 0 + 0 + 0 + 0 + 0 + 32 + 0 + 0 + 0 + 0 + 0 + 0 + 0 ≤ _)⟩)
  dsimp only [Pt.U, Pt.locs, Pt.cells, Pt.slots] at X103 l103 y103 z103 st103 hQ103
  subst y103 z103
  obtain ⟨rfl, N103q, e103⟩ := hQ103
  have N103 : Fr n0 L103 := by rw [l103]; exact Fr.app N101 N103q
  refine own_go (fun tgt cont => st103 tgt cont) ?_
  show own_Go p e below s (Q0 n0) room_1.cells room_1.slots (T103.setTop (mkF m 421 #[.val (.int p1), .val (.long p2), .second, .val (.int p3), .val (.int p4), .val (.int v1), .val (.int v2), .val (.int v3), .val (.ref b4), .val (.int (1 : Int32)), .unset, .unset] [(.int (own_hit p2 (6 : Int32) v1 v2)), (.int (((((r92 + r94) + r96) + r98) + r100) + r102))]))
  generalize hr104 : (own_hit p2 (6 : Int32) v1 v2) = r104
  refine own_go (B := T103.setTop (mkF m 429 #[.val (.int p1), .val (.long p2), .second, .val (.int p3), .val (.int p4), .val (.int v1), .val (.int v2), .val (.int v3), .val (.ref b4), .val (.int (1 : Int32)), .unset, .unset] [(.int v2), (.int v1), (.int (7 : Int32)), (.long p2), (.int ((((((r92 + r94) + r96) + r98) + r100) + r102) + r104))])) (fun tgt cont => ?_) ?_
  · refine XS.iadd X103.here hx rfl (hb hby at_421) rfl ?_
    refine XS.lloadN X103.here hx rfl (hb hby at_422) rfl ?_
    refine XT.bipushV X103.here hx rfl (7 : Int32) (hb hby at_423) rfl ?_
    refine XS.iload X103.here hx rfl (hb hby at_425) rfl ?_
    refine XS.iload X103.here hx rfl (hb hby at_427) rfl ?_
    exact cont
  -- pc 429: BuilderAddEdgePinLaw.hit
  obtain ⟨_, _, ⟨T105, L105, k105, n105⟩, -, X105, ⟨Lc105, hQ105, l105, y105, z105⟩, st105⟩ := Jvm.LawKit.callS X103 hx (y := (⟨"com/example/cyclecut/cyclecut/graph/BuilderAddEdgePinLaw", "hit", "(JIII)I"⟩ : MethodName)) hown (mvT hZ (hw _ (List.mem_of_getElem? (i := 55) rfl))) (mvT hZ (hw _ (List.mem_of_getElem? (i := 56) rfl))) (mvT hZ (hw _ (List.mem_of_getElem? (i := 19) rfl))) (mvT hZ (hw _ (List.mem_of_getElem? (i := 57) rfl))) (by decide) (backOf (W := 1) (rm10 l Z a0 hw [] p2 (7 : Int32) v1 v2 T85.heap n0 zp85 n4) hZ (hw _ (List.mem_of_getElem? (i := 57) rfl)) (hw _ (List.mem_of_getElem? (i := 19) rfl)) (by decide) (by decide)) (g := (mkF m 429 #[.val (.int p1), .val (.long p2), .second, .val (.int p3), .val (.int p4), .val (.int v1), .val (.int v2), .val (.int v3), .val (.ref b4), .val (.int (1 : Int32)), .unset, .unset] [(.int v2), (.int v1), (.int (7 : Int32)), (.long p2), (.int ((((((r92 + r94) + r96) + r98) + r100) + r102) + r104))])) rfl (by rw [hml]; rfl) (argsL := [(.long p2), (.int (7 : Int32)), (.int v1), (.int v2)]) (rest := [(.int ((((((r92 + r94) + r96) + r98) + r100) + r102) + r104))]) (lenOf own_pd8 rfl) rfl (by show 2 * 0 + _ ≤ _; exact Nat.le_of_eq rfl) (hb hby at_429) (fun _ _ => ⟨rfl, e103, (by decide : 0 + 1 + 2 + 0 + 0 + 0 + 0 + 0 + 0 + 0 + 0 + 0 + 0 + 0 + 0 + 0 + 0 + 0 + 0 + 0 + 0 + 0 + 0 + 0 + 0 + 0 + 0 + 0 + 0 + 1 + 0 + 0 + 0 + 0 + 0 + 0 + 0 + 0 ≤ _), (by decide : 0 + 4 + 24 + 0 + 0 + 0 + 0 + 0 + 0 + 0 + 0 + 0 + 0 + 0 + 0 + 0 + 0 + 0 + 0 + 0 + 0 + 0 + 0 + 0 + 0 + 0 + 0 + 0 + 0 + 32 + 0 + 0 + 0 + 0 + 0 + 0 + 0 + 0 ≤ _)⟩)
  dsimp only [Pt.U, Pt.locs, Pt.cells, Pt.slots] at X105 l105 y105 z105 st105 hQ105
  subst y105 z105
  obtain ⟨rfl, N105q, e105⟩ := hQ105
  have N105 : Fr n0 L105 := by rw [l105]; exact Fr.app N103 N105q
  refine own_go (fun tgt cont => st105 tgt cont) ?_
  show own_Go p e below s (Q0 n0) room_1.cells room_1.slots (T105.setTop (mkF m 432 #[.val (.int p1), .val (.long p2), .second, .val (.int p3), .val (.int p4), .val (.int v1), .val (.int v2), .val (.int v3), .val (.ref b4), .val (.int (1 : Int32)), .unset, .unset] [(.int (own_hit p2 (7 : Int32) v1 v2)), (.int ((((((r92 + r94) + r96) + r98) + r100) + r102) + r104))]))
  generalize hr106 : (own_hit p2 (7 : Int32) v1 v2) = r106
  refine own_go (B := T105.setTop (mkF m 440 #[.val (.int p1), .val (.long p2), .second, .val (.int p3), .val (.int p4), .val (.int v1), .val (.int v2), .val (.int v3), .val (.ref b4), .val (.int (1 : Int32)), .unset, .unset] [(.int v2), (.int v1), (.int (8 : Int32)), (.long p2), (.int (((((((r92 + r94) + r96) + r98) + r100) + r102) + r104) + r106))])) (fun tgt cont => ?_) ?_
  · refine XS.iadd X105.here hx rfl (hb hby at_432) rfl ?_
    refine XS.lloadN X105.here hx rfl (hb hby at_433) rfl ?_
    refine XT.bipushV X105.here hx rfl (8 : Int32) (hb hby at_434) rfl ?_
    refine XS.iload X105.here hx rfl (hb hby at_436) rfl ?_
    refine XS.iload X105.here hx rfl (hb hby at_438) rfl ?_
    exact cont
  -- pc 440: BuilderAddEdgePinLaw.hit
  obtain ⟨_, _, ⟨T107, L107, k107, n107⟩, -, X107, ⟨Lc107, hQ107, l107, y107, z107⟩, st107⟩ := Jvm.LawKit.callS X105 hx (y := (⟨"com/example/cyclecut/cyclecut/graph/BuilderAddEdgePinLaw", "hit", "(JIII)I"⟩ : MethodName)) hown (mvT hZ (hw _ (List.mem_of_getElem? (i := 55) rfl))) (mvT hZ (hw _ (List.mem_of_getElem? (i := 56) rfl))) (mvT hZ (hw _ (List.mem_of_getElem? (i := 19) rfl))) (mvT hZ (hw _ (List.mem_of_getElem? (i := 57) rfl))) (by decide) (backOf (W := 1) (rm10 l Z a0 hw [] p2 (8 : Int32) v1 v2 T85.heap n0 zp85 n4) hZ (hw _ (List.mem_of_getElem? (i := 57) rfl)) (hw _ (List.mem_of_getElem? (i := 19) rfl)) (by decide) (by decide)) (g := (mkF m 440 #[.val (.int p1), .val (.long p2), .second, .val (.int p3), .val (.int p4), .val (.int v1), .val (.int v2), .val (.int v3), .val (.ref b4), .val (.int (1 : Int32)), .unset, .unset] [(.int v2), (.int v1), (.int (8 : Int32)), (.long p2), (.int (((((((r92 + r94) + r96) + r98) + r100) + r102) + r104) + r106))])) rfl (by rw [hml]; rfl) (argsL := [(.long p2), (.int (8 : Int32)), (.int v1), (.int v2)]) (rest := [(.int (((((((r92 + r94) + r96) + r98) + r100) + r102) + r104) + r106))]) (lenOf own_pd8 rfl) rfl (by show 2 * 0 + _ ≤ _; exact Nat.le_of_eq rfl) (hb hby at_440) (fun _ _ => ⟨rfl, e105, (by decide : 0 + 1 + 2 + 0 + 0 + 0 + 0 + 0 + 0 + 0 + 0 + 0 + 0 + 0 + 0 + 0 + 0 + 0 + 0 + 0 + 0 + 0 + 0 + 0 + 0 + 0 + 0 + 0 + 0 + 1 + 0 + 0 + 0 + 0 + 0 + 0 + 0 + 0 + 0 ≤ _), (by decide : 0 + 4 + 24 + 0 + 0 + 0 + 0 + 0 + 0 + 0 + 0 + 0 + 0 + 0 + 0 + 0 + 0 + 0 + 0 + 0 + 0 + 0 + 0 + 0 + 0 + 0 + 0 + 0 + 0 + 32 + 0 + 0 + 0 + 0 + 0 + 0 + 0 + 0 + 0 ≤ _)⟩)
  dsimp only [Pt.U, Pt.locs, Pt.cells, Pt.slots] at X107 l107 y107 z107 st107 hQ107
  subst y107 z107
  obtain ⟨rfl, N107q, e107⟩ := hQ107
  have N107 : Fr n0 L107 := by rw [l107]; exact Fr.app N105 N107q
  refine own_go (fun tgt cont => st107 tgt cont) ?_
  show own_Go p e below s (Q0 n0) room_1.cells room_1.slots (T107.setTop (mkF m 443 #[.val (.int p1), .val (.long p2), .second, .val (.int p3), .val (.int p4), .val (.int v1), .val (.int v2), .val (.int v3), .val (.ref b4), .val (.int (1 : Int32)), .unset, .unset] [(.int (own_hit p2 (8 : Int32) v1 v2)), (.int (((((((r92 + r94) + r96) + r98) + r100) + r102) + r104) + r106))]))
  generalize hr108 : (own_hit p2 (8 : Int32) v1 v2) = r108
  refine own_go (B := T107.setTop (mkF m 451 #[.val (.int p1), .val (.long p2), .second, .val (.int p3), .val (.int p4), .val (.int v1), .val (.int v2), .val (.int v3), .val (.ref b4), .val (.int (1 : Int32)), .unset, .unset] [(.int v2), (.int v1), (.int (9 : Int32)), (.long p2), (.int ((((((((r92 + r94) + r96) + r98) + r100) + r102) + r104) + r106) + r108))])) (fun tgt cont => ?_) ?_
  · refine XS.iadd X107.here hx rfl (hb hby at_443) rfl ?_
    refine XS.lloadN X107.here hx rfl (hb hby at_444) rfl ?_
    refine XT.bipushV X107.here hx rfl (9 : Int32) (hb hby at_445) rfl ?_
    refine XS.iload X107.here hx rfl (hb hby at_447) rfl ?_
    refine XS.iload X107.here hx rfl (hb hby at_449) rfl ?_
    exact cont
  -- pc 451: BuilderAddEdgePinLaw.hit
  obtain ⟨_, _, ⟨T109, L109, k109, n109⟩, -, X109, ⟨Lc109, hQ109, l109, y109, z109⟩, st109⟩ := Jvm.LawKit.callS X107 hx (y := (⟨"com/example/cyclecut/cyclecut/graph/BuilderAddEdgePinLaw", "hit", "(JIII)I"⟩ : MethodName)) hown (mvT hZ (hw _ (List.mem_of_getElem? (i := 55) rfl))) (mvT hZ (hw _ (List.mem_of_getElem? (i := 56) rfl))) (mvT hZ (hw _ (List.mem_of_getElem? (i := 19) rfl))) (mvT hZ (hw _ (List.mem_of_getElem? (i := 57) rfl))) (by decide) (backOf (W := 1) (rm10 l Z a0 hw [] p2 (9 : Int32) v1 v2 T85.heap n0 zp85 n4) hZ (hw _ (List.mem_of_getElem? (i := 57) rfl)) (hw _ (List.mem_of_getElem? (i := 19) rfl)) (by decide) (by decide)) (g := (mkF m 451 #[.val (.int p1), .val (.long p2), .second, .val (.int p3), .val (.int p4), .val (.int v1), .val (.int v2), .val (.int v3), .val (.ref b4), .val (.int (1 : Int32)), .unset, .unset] [(.int v2), (.int v1), (.int (9 : Int32)), (.long p2), (.int ((((((((r92 + r94) + r96) + r98) + r100) + r102) + r104) + r106) + r108))])) rfl (by rw [hml]; rfl) (argsL := [(.long p2), (.int (9 : Int32)), (.int v1), (.int v2)]) (rest := [(.int ((((((((r92 + r94) + r96) + r98) + r100) + r102) + r104) + r106) + r108))]) (lenOf own_pd8 rfl) rfl (by show 2 * 0 + _ ≤ _; exact Nat.le_of_eq rfl) (hb hby at_451) (fun _ _ => ⟨rfl, e107, (by decide : 0 + 1 + 2 + 0 + 0 + 0 + 0 + 0 + 0 + 0 + 0 + 0 + 0 + 0 + 0 + 0 + 0 + 0 + 0 + 0 + 0 + 0 + 0 + 0 + 0 + 0 + 0 + 0 + 0 + 1 + 0 + 0 + 0 + 0 + 0 + 0 + 0 + 0 + 0 + 0 ≤ _), (by decide : 0 + 4 + 24 + 0 + 0 + 0 + 0 + 0 + 0 + 0 + 0 + 0 + 0 + 0 + 0 + 0 + 0 + 0 + 0 + 0 + 0 + 0 + 0 + 0 + 0 + 0 + 0 + 0 + 0 + 32 + 0 + 0 + 0 + 0 + 0 + 0 + 0 + 0 + 0 + 0 ≤ _)⟩)
  dsimp only [Pt.U, Pt.locs, Pt.cells, Pt.slots] at X109 l109 y109 z109 st109 hQ109
  subst y109 z109
  obtain ⟨rfl, N109q, e109⟩ := hQ109
  have N109 : Fr n0 L109 := by rw [l109]; exact Fr.app N107 N109q
  refine own_go (fun tgt cont => st109 tgt cont) ?_
  show own_Go p e below s (Q0 n0) room_1.cells room_1.slots (T109.setTop (mkF m 454 #[.val (.int p1), .val (.long p2), .second, .val (.int p3), .val (.int p4), .val (.int v1), .val (.int v2), .val (.int v3), .val (.ref b4), .val (.int (1 : Int32)), .unset, .unset] [(.int (own_hit p2 (9 : Int32) v1 v2)), (.int ((((((((r92 + r94) + r96) + r98) + r100) + r102) + r104) + r106) + r108))]))
  generalize hr110 : (own_hit p2 (9 : Int32) v1 v2) = r110
  refine own_go (B := T109.setTop (mkF m 462 #[.val (.int p1), .val (.long p2), .second, .val (.int p3), .val (.int p4), .val (.int v1), .val (.int v2), .val (.int v3), .val (.ref b4), .val (.int (1 : Int32)), .unset, .unset] [(.int v2), (.int v1), (.int (10 : Int32)), (.long p2), (.int (((((((((r92 + r94) + r96) + r98) + r100) + r102) + r104) + r106) + r108) + r110))])) (fun tgt cont => ?_) ?_
  · refine XS.iadd X109.here hx rfl (hb hby at_454) rfl ?_
    refine XS.lloadN X109.here hx rfl (hb hby at_455) rfl ?_
    refine XT.bipushV X109.here hx rfl (10 : Int32) (hb hby at_456) rfl ?_
    refine XS.iload X109.here hx rfl (hb hby at_458) rfl ?_
    refine XS.iload X109.here hx rfl (hb hby at_460) rfl ?_
    exact cont
  -- pc 462: BuilderAddEdgePinLaw.hit
  obtain ⟨_, _, ⟨T111, L111, k111, n111⟩, -, X111, ⟨Lc111, hQ111, l111, y111, z111⟩, st111⟩ := Jvm.LawKit.callS X109 hx (y := (⟨"com/example/cyclecut/cyclecut/graph/BuilderAddEdgePinLaw", "hit", "(JIII)I"⟩ : MethodName)) hown (mvT hZ (hw _ (List.mem_of_getElem? (i := 55) rfl))) (mvT hZ (hw _ (List.mem_of_getElem? (i := 56) rfl))) (mvT hZ (hw _ (List.mem_of_getElem? (i := 19) rfl))) (mvT hZ (hw _ (List.mem_of_getElem? (i := 57) rfl))) (by decide) (backOf (W := 1) (rm10 l Z a0 hw [] p2 (10 : Int32) v1 v2 T85.heap n0 zp85 n4) hZ (hw _ (List.mem_of_getElem? (i := 57) rfl)) (hw _ (List.mem_of_getElem? (i := 19) rfl)) (by decide) (by decide)) (g := (mkF m 462 #[.val (.int p1), .val (.long p2), .second, .val (.int p3), .val (.int p4), .val (.int v1), .val (.int v2), .val (.int v3), .val (.ref b4), .val (.int (1 : Int32)), .unset, .unset] [(.int v2), (.int v1), (.int (10 : Int32)), (.long p2), (.int (((((((((r92 + r94) + r96) + r98) + r100) + r102) + r104) + r106) + r108) + r110))])) rfl (by rw [hml]; rfl) (argsL := [(.long p2), (.int (10 : Int32)), (.int v1), (.int v2)]) (rest := [(.int (((((((((r92 + r94) + r96) + r98) + r100) + r102) + r104) + r106) + r108) + r110))]) (lenOf own_pd8 rfl) rfl (by show 2 * 0 + _ ≤ _; exact Nat.le_of_eq rfl) (hb hby at_462) (fun _ _ => ⟨rfl, e109, (by decide : 0 + 1 + 2 + 0 + 0 + 0 + 0 + 0 + 0 + 0 + 0 + 0 + 0 + 0 + 0 + 0 + 0 + 0 + 0 + 0 + 0 + 0 + 0 + 0 + 0 + 0 + 0 + 0 + 0 + 1 + 0 + 0 + 0 + 0 + 0 + 0 + 0 + 0 + 0 + 0 + 0 ≤ _), (by decide : 0 + 4 + 24 + 0 + 0 + 0 + 0 + 0 + 0 + 0 + 0 + 0 + 0 + 0 + 0 + 0 + 0 + 0 + 0 + 0 + 0 + 0 + 0 + 0 + 0 + 0 + 0 + 0 + 0 + 32 + 0 + 0 + 0 + 0 + 0 + 0 + 0 + 0 + 0 + 0 + 0 ≤ _)⟩)
  dsimp only [Pt.U, Pt.locs, Pt.cells, Pt.slots] at X111 l111 y111 z111 st111 hQ111
  subst y111 z111
  obtain ⟨rfl, N111q, e111⟩ := hQ111
  have N111 : Fr n0 L111 := by rw [l111]; exact Fr.app N109 N111q
  refine own_go (fun tgt cont => st111 tgt cont) ?_
  show own_Go p e below s (Q0 n0) room_1.cells room_1.slots (T111.setTop (mkF m 465 #[.val (.int p1), .val (.long p2), .second, .val (.int p3), .val (.int p4), .val (.int v1), .val (.int v2), .val (.int v3), .val (.ref b4), .val (.int (1 : Int32)), .unset, .unset] [(.int (own_hit p2 (10 : Int32) v1 v2)), (.int (((((((((r92 + r94) + r96) + r98) + r100) + r102) + r104) + r106) + r108) + r110))]))
  generalize hr112 : (own_hit p2 (10 : Int32) v1 v2) = r112
  refine own_go (B := T111.setTop (mkF m 473 #[.val (.int p1), .val (.long p2), .second, .val (.int p3), .val (.int p4), .val (.int v1), .val (.int v2), .val (.int v3), .val (.ref b4), .val (.int (1 : Int32)), .unset, .unset] [(.int v2), (.int v1), (.int (11 : Int32)), (.long p2), (.int ((((((((((r92 + r94) + r96) + r98) + r100) + r102) + r104) + r106) + r108) + r110) + r112))])) (fun tgt cont => ?_) ?_
  · refine XS.iadd X111.here hx rfl (hb hby at_465) rfl ?_
    refine XS.lloadN X111.here hx rfl (hb hby at_466) rfl ?_
    refine XT.bipushV X111.here hx rfl (11 : Int32) (hb hby at_467) rfl ?_
    refine XS.iload X111.here hx rfl (hb hby at_469) rfl ?_
    refine XS.iload X111.here hx rfl (hb hby at_471) rfl ?_
    exact cont
  -- pc 473: BuilderAddEdgePinLaw.hit
  obtain ⟨_, _, ⟨T113, L113, k113, n113⟩, -, X113, ⟨Lc113, hQ113, l113, y113, z113⟩, st113⟩ := Jvm.LawKit.callS X111 hx (y := (⟨"com/example/cyclecut/cyclecut/graph/BuilderAddEdgePinLaw", "hit", "(JIII)I"⟩ : MethodName)) hown (mvT hZ (hw _ (List.mem_of_getElem? (i := 55) rfl))) (mvT hZ (hw _ (List.mem_of_getElem? (i := 56) rfl))) (mvT hZ (hw _ (List.mem_of_getElem? (i := 19) rfl))) (mvT hZ (hw _ (List.mem_of_getElem? (i := 57) rfl))) (by decide) (backOf (W := 1) (rm10 l Z a0 hw [] p2 (11 : Int32) v1 v2 T85.heap n0 zp85 n4) hZ (hw _ (List.mem_of_getElem? (i := 57) rfl)) (hw _ (List.mem_of_getElem? (i := 19) rfl)) (by decide) (by decide)) (g := (mkF m 473 #[.val (.int p1), .val (.long p2), .second, .val (.int p3), .val (.int p4), .val (.int v1), .val (.int v2), .val (.int v3), .val (.ref b4), .val (.int (1 : Int32)), .unset, .unset] [(.int v2), (.int v1), (.int (11 : Int32)), (.long p2), (.int ((((((((((r92 + r94) + r96) + r98) + r100) + r102) + r104) + r106) + r108) + r110) + r112))])) rfl (by rw [hml]; rfl) (argsL := [(.long p2), (.int (11 : Int32)), (.int v1), (.int v2)]) (rest := [(.int ((((((((((r92 + r94) + r96) + r98) + r100) + r102) + r104) + r106) + r108) + r110) + r112))]) (lenOf own_pd8 rfl) rfl (by show 2 * 0 + _ ≤ _; exact Nat.le_of_eq rfl) (hb hby at_473) (fun _ _ => ⟨rfl, e111, (by decide : 0 + 1 + 2 + 0 + 0 + 0 + 0 + 0 + 0 + 0 + 0 + 0 + 0 + 0 + 0 + 0 + 0 + 0 + 0 + 0 + 0 + 0 + 0 + 0 + 0 + 0 + 0 + 0 + 0 + 1 + 0 + 0 + 0 + 0 + 0 + 0 + 0 + 0 + 0 + 0 + 0 + 0 ≤ _), (by decide : 0 + 4 + 24 + 0 + 0 + 0 + 0 + 0 + 0 + 0 + 0 + 0 + 0 + 0 + 0 + 0 + 0 + 0 + 0 + 0 + 0 + 0 + 0 + 0 + 0 + 0 + 0 + 0 + 0 + 32 + 0 + 0 + 0 + 0 + 0 + 0 + 0 + 0 + 0 + 0 + 0 + 0 ≤ _)⟩)
  dsimp only [Pt.U, Pt.locs, Pt.cells, Pt.slots] at X113 l113 y113 z113 st113 hQ113
  subst y113 z113
  obtain ⟨rfl, N113q, e113⟩ := hQ113
  have N113 : Fr n0 L113 := by rw [l113]; exact Fr.app N111 N113q
  refine own_go (fun tgt cont => st113 tgt cont) ?_
  show own_Go p e below s (Q0 n0) room_1.cells room_1.slots (T113.setTop (mkF m 476 #[.val (.int p1), .val (.long p2), .second, .val (.int p3), .val (.int p4), .val (.int v1), .val (.int v2), .val (.int v3), .val (.ref b4), .val (.int (1 : Int32)), .unset, .unset] [(.int (own_hit p2 (11 : Int32) v1 v2)), (.int ((((((((((r92 + r94) + r96) + r98) + r100) + r102) + r104) + r106) + r108) + r110) + r112))]))
  generalize hr114 : (own_hit p2 (11 : Int32) v1 v2) = r114
  refine own_go (B := T113.setTop (mkF m 484 #[.val (.int p1), .val (.long p2), .second, .val (.int p3), .val (.int p4), .val (.int v1), .val (.int v2), .val (.int v3), .val (.ref b4), .val (.int (1 : Int32)), .unset, .unset] [(.int v2), (.int v1), (.int (12 : Int32)), (.long p2), (.int (((((((((((r92 + r94) + r96) + r98) + r100) + r102) + r104) + r106) + r108) + r110) + r112) + r114))])) (fun tgt cont => ?_) ?_
  · refine XS.iadd X113.here hx rfl (hb hby at_476) rfl ?_
    refine XS.lloadN X113.here hx rfl (hb hby at_477) rfl ?_
    refine XT.bipushV X113.here hx rfl (12 : Int32) (hb hby at_478) rfl ?_
    refine XS.iload X113.here hx rfl (hb hby at_480) rfl ?_
    refine XS.iload X113.here hx rfl (hb hby at_482) rfl ?_
    exact cont
  -- pc 484: BuilderAddEdgePinLaw.hit
  obtain ⟨_, _, ⟨T115, L115, k115, n115⟩, -, X115, ⟨Lc115, hQ115, l115, y115, z115⟩, st115⟩ := Jvm.LawKit.callS X113 hx (y := (⟨"com/example/cyclecut/cyclecut/graph/BuilderAddEdgePinLaw", "hit", "(JIII)I"⟩ : MethodName)) hown (mvT hZ (hw _ (List.mem_of_getElem? (i := 55) rfl))) (mvT hZ (hw _ (List.mem_of_getElem? (i := 56) rfl))) (mvT hZ (hw _ (List.mem_of_getElem? (i := 19) rfl))) (mvT hZ (hw _ (List.mem_of_getElem? (i := 57) rfl))) (by decide) (backOf (W := 1) (rm10 l Z a0 hw [] p2 (12 : Int32) v1 v2 T85.heap n0 zp85 n4) hZ (hw _ (List.mem_of_getElem? (i := 57) rfl)) (hw _ (List.mem_of_getElem? (i := 19) rfl)) (by decide) (by decide)) (g := (mkF m 484 #[.val (.int p1), .val (.long p2), .second, .val (.int p3), .val (.int p4), .val (.int v1), .val (.int v2), .val (.int v3), .val (.ref b4), .val (.int (1 : Int32)), .unset, .unset] [(.int v2), (.int v1), (.int (12 : Int32)), (.long p2), (.int (((((((((((r92 + r94) + r96) + r98) + r100) + r102) + r104) + r106) + r108) + r110) + r112) + r114))])) rfl (by rw [hml]; rfl) (argsL := [(.long p2), (.int (12 : Int32)), (.int v1), (.int v2)]) (rest := [(.int (((((((((((r92 + r94) + r96) + r98) + r100) + r102) + r104) + r106) + r108) + r110) + r112) + r114))]) (lenOf own_pd8 rfl) rfl (by show 2 * 0 + _ ≤ _; exact Nat.le_of_eq rfl) (hb hby at_484) (fun _ _ => ⟨rfl, e113, (by decide : 0 + 1 + 2 + 0 + 0 + 0 + 0 + 0 + 0 + 0 + 0 + 0 + 0 + 0 + 0 + 0 + 0 + 0 + 0 + 0 + 0 + 0 + 0 + 0 + 0 + 0 + 0 + 0 + 0 + 1 + 0 + 0 + 0 + 0 + 0 + 0 + 0 + 0 + 0 + 0 + 0 + 0 + 0 ≤ _), (by decide : 0 + 4 + 24 + 0 + 0 + 0 + 0 + 0 + 0 + 0 + 0 + 0 + 0 + 0 + 0 + 0 + 0 + 0 + 0 + 0 + 0 + 0 + 0 + 0 + 0 + 0 + 0 + 0 + 0 + 32 + 0 + 0 + 0 + 0 + 0 + 0 + 0 + 0 + 0 + 0 + 0 + 0 + 0 ≤ _)⟩)
  dsimp only [Pt.U, Pt.locs, Pt.cells, Pt.slots] at X115 l115 y115 z115 st115 hQ115
  subst y115 z115
  obtain ⟨rfl, N115q, e115⟩ := hQ115
  have N115 : Fr n0 L115 := by rw [l115]; exact Fr.app N113 N115q
  refine own_go (fun tgt cont => st115 tgt cont) ?_
  show own_Go p e below s (Q0 n0) room_1.cells room_1.slots (T115.setTop (mkF m 487 #[.val (.int p1), .val (.long p2), .second, .val (.int p3), .val (.int p4), .val (.int v1), .val (.int v2), .val (.int v3), .val (.ref b4), .val (.int (1 : Int32)), .unset, .unset] [(.int (own_hit p2 (12 : Int32) v1 v2)), (.int (((((((((((r92 + r94) + r96) + r98) + r100) + r102) + r104) + r106) + r108) + r110) + r112) + r114))]))
  generalize hr116 : (own_hit p2 (12 : Int32) v1 v2) = r116
  refine own_go (B := T115.setTop (mkF m 495 #[.val (.int p1), .val (.long p2), .second, .val (.int p3), .val (.int p4), .val (.int v1), .val (.int v2), .val (.int v3), .val (.ref b4), .val (.int (1 : Int32)), .unset, .unset] [(.int v2), (.int v1), (.int (13 : Int32)), (.long p2), (.int ((((((((((((r92 + r94) + r96) + r98) + r100) + r102) + r104) + r106) + r108) + r110) + r112) + r114) + r116))])) (fun tgt cont => ?_) ?_
  · refine XS.iadd X115.here hx rfl (hb hby at_487) rfl ?_
    refine XS.lloadN X115.here hx rfl (hb hby at_488) rfl ?_
    refine XT.bipushV X115.here hx rfl (13 : Int32) (hb hby at_489) rfl ?_
    refine XS.iload X115.here hx rfl (hb hby at_491) rfl ?_
    refine XS.iload X115.here hx rfl (hb hby at_493) rfl ?_
    exact cont
  -- pc 495: BuilderAddEdgePinLaw.hit
  obtain ⟨_, _, ⟨T117, L117, k117, n117⟩, -, X117, ⟨Lc117, hQ117, l117, y117, z117⟩, st117⟩ := Jvm.LawKit.callS X115 hx (y := (⟨"com/example/cyclecut/cyclecut/graph/BuilderAddEdgePinLaw", "hit", "(JIII)I"⟩ : MethodName)) hown (mvT hZ (hw _ (List.mem_of_getElem? (i := 55) rfl))) (mvT hZ (hw _ (List.mem_of_getElem? (i := 56) rfl))) (mvT hZ (hw _ (List.mem_of_getElem? (i := 19) rfl))) (mvT hZ (hw _ (List.mem_of_getElem? (i := 57) rfl))) (by decide) (backOf (W := 1) (rm10 l Z a0 hw [] p2 (13 : Int32) v1 v2 T85.heap n0 zp85 n4) hZ (hw _ (List.mem_of_getElem? (i := 57) rfl)) (hw _ (List.mem_of_getElem? (i := 19) rfl)) (by decide) (by decide)) (g := (mkF m 495 #[.val (.int p1), .val (.long p2), .second, .val (.int p3), .val (.int p4), .val (.int v1), .val (.int v2), .val (.int v3), .val (.ref b4), .val (.int (1 : Int32)), .unset, .unset] [(.int v2), (.int v1), (.int (13 : Int32)), (.long p2), (.int ((((((((((((r92 + r94) + r96) + r98) + r100) + r102) + r104) + r106) + r108) + r110) + r112) + r114) + r116))])) rfl (by rw [hml]; rfl) (argsL := [(.long p2), (.int (13 : Int32)), (.int v1), (.int v2)]) (rest := [(.int ((((((((((((r92 + r94) + r96) + r98) + r100) + r102) + r104) + r106) + r108) + r110) + r112) + r114) + r116))]) (lenOf own_pd8 rfl) rfl (by show 2 * 0 + _ ≤ _; exact Nat.le_of_eq rfl) (hb hby at_495) (fun _ _ => ⟨rfl, e115, (by decide : 0 + 1 + 2 + 0 + 0 + 0 + 0 + 0 + 0 + 0 + 0 + 0 + 0 + 0 + 0 + 0 + 0 + 0 + 0 + 0 + 0 + 0 + 0 + 0 + 0 + 0 + 0 + 0 + 0 + 1 + 0 + 0 + 0 + 0 + 0 + 0 + 0 + 0 + 0 + 0 + 0 + 0 + 0 + 0 ≤ _), (by decide : 0 + 4 + 24 + 0 + 0 + 0 + 0 + 0 + 0 + 0 + 0 + 0 + 0 + 0 + 0 + 0 + 0 + 0 + 0 + 0 + 0 + 0 + 0 + 0 + 0 + 0 + 0 + 0 + 0 + 32 + 0 + 0 + 0 + 0 + 0 + 0 + 0 + 0 + 0 + 0 + 0 + 0 + 0 + 0 ≤ _)⟩)
  dsimp only [Pt.U, Pt.locs, Pt.cells, Pt.slots] at X117 l117 y117 z117 st117 hQ117
  subst y117 z117
  obtain ⟨rfl, N117q, e117⟩ := hQ117
  have N117 : Fr n0 L117 := by rw [l117]; exact Fr.app N115 N117q
  refine own_go (fun tgt cont => st117 tgt cont) ?_
  show own_Go p e below s (Q0 n0) room_1.cells room_1.slots (T117.setTop (mkF m 498 #[.val (.int p1), .val (.long p2), .second, .val (.int p3), .val (.int p4), .val (.int v1), .val (.int v2), .val (.int v3), .val (.ref b4), .val (.int (1 : Int32)), .unset, .unset] [(.int (own_hit p2 (13 : Int32) v1 v2)), (.int ((((((((((((r92 + r94) + r96) + r98) + r100) + r102) + r104) + r106) + r108) + r110) + r112) + r114) + r116))]))
  generalize hr118 : (own_hit p2 (13 : Int32) v1 v2) = r118
  refine own_go (B := T117.setTop (mkF m 506 #[.val (.int p1), .val (.long p2), .second, .val (.int p3), .val (.int p4), .val (.int v1), .val (.int v2), .val (.int v3), .val (.ref b4), .val (.int (1 : Int32)), .unset, .unset] [(.int v2), (.int v1), (.int (14 : Int32)), (.long p2), (.int (((((((((((((r92 + r94) + r96) + r98) + r100) + r102) + r104) + r106) + r108) + r110) + r112) + r114) + r116) + r118))])) (fun tgt cont => ?_) ?_
  · refine XS.iadd X117.here hx rfl (hb hby at_498) rfl ?_
    refine XS.lloadN X117.here hx rfl (hb hby at_499) rfl ?_
    refine XT.bipushV X117.here hx rfl (14 : Int32) (hb hby at_500) rfl ?_
    refine XS.iload X117.here hx rfl (hb hby at_502) rfl ?_
    refine XS.iload X117.here hx rfl (hb hby at_504) rfl ?_
    exact cont
  -- pc 506: BuilderAddEdgePinLaw.hit
  obtain ⟨_, _, ⟨T119, L119, k119, n119⟩, -, X119, ⟨Lc119, hQ119, l119, y119, z119⟩, st119⟩ := Jvm.LawKit.callS X117 hx (y := (⟨"com/example/cyclecut/cyclecut/graph/BuilderAddEdgePinLaw", "hit", "(JIII)I"⟩ : MethodName)) hown (mvT hZ (hw _ (List.mem_of_getElem? (i := 55) rfl))) (mvT hZ (hw _ (List.mem_of_getElem? (i := 56) rfl))) (mvT hZ (hw _ (List.mem_of_getElem? (i := 19) rfl))) (mvT hZ (hw _ (List.mem_of_getElem? (i := 57) rfl))) (by decide) (backOf (W := 1) (rm10 l Z a0 hw [] p2 (14 : Int32) v1 v2 T85.heap n0 zp85 n4) hZ (hw _ (List.mem_of_getElem? (i := 57) rfl)) (hw _ (List.mem_of_getElem? (i := 19) rfl)) (by decide) (by decide)) (g := (mkF m 506 #[.val (.int p1), .val (.long p2), .second, .val (.int p3), .val (.int p4), .val (.int v1), .val (.int v2), .val (.int v3), .val (.ref b4), .val (.int (1 : Int32)), .unset, .unset] [(.int v2), (.int v1), (.int (14 : Int32)), (.long p2), (.int (((((((((((((r92 + r94) + r96) + r98) + r100) + r102) + r104) + r106) + r108) + r110) + r112) + r114) + r116) + r118))])) rfl (by rw [hml]; rfl) (argsL := [(.long p2), (.int (14 : Int32)), (.int v1), (.int v2)]) (rest := [(.int (((((((((((((r92 + r94) + r96) + r98) + r100) + r102) + r104) + r106) + r108) + r110) + r112) + r114) + r116) + r118))]) (lenOf own_pd8 rfl) rfl (by show 2 * 0 + _ ≤ _; exact Nat.le_of_eq rfl) (hb hby at_506) (fun _ _ => ⟨rfl, e117, (by decide : 0 + 1 + 2 + 0 + 0 + 0 + 0 + 0 + 0 + 0 + 0 + 0 + 0 + 0 + 0 + 0 + 0 + 0 + 0 + 0 + 0 + 0 + 0 + 0 + 0 + 0 + 0 + 0 + 0 + 1 + 0 + 0 + 0 + 0 + 0 + 0 + 0 + 0 + 0 + 0 + 0 + 0 + 0 + 0 + 0 ≤ _), (by decide : 0 + 4 + 24 + 0 + 0 + 0 + 0 + 0 + 0 + 0 + 0 + 0 + 0 + 0 + 0 + 0 + 0 + 0 + 0 + 0 + 0 + 0 + 0 + 0 + 0 + 0 + 0 + 0 + 0 + 32 + 0 + 0 + 0 + 0 + 0 + 0 + 0 + 0 + 0 + 0 + 0 + 0 + 0 + 0 + 0 ≤ _)⟩)
  dsimp only [Pt.U, Pt.locs, Pt.cells, Pt.slots] at X119 l119 y119 z119 st119 hQ119
  subst y119 z119
  obtain ⟨rfl, N119q, e119⟩ := hQ119
  have N119 : Fr n0 L119 := by rw [l119]; exact Fr.app N117 N119q
  refine own_go (fun tgt cont => st119 tgt cont) ?_
  show own_Go p e below s (Q0 n0) room_1.cells room_1.slots (T119.setTop (mkF m 509 #[.val (.int p1), .val (.long p2), .second, .val (.int p3), .val (.int p4), .val (.int v1), .val (.int v2), .val (.int v3), .val (.ref b4), .val (.int (1 : Int32)), .unset, .unset] [(.int (own_hit p2 (14 : Int32) v1 v2)), (.int (((((((((((((r92 + r94) + r96) + r98) + r100) + r102) + r104) + r106) + r108) + r110) + r112) + r114) + r116) + r118))]))
  generalize hr120 : (own_hit p2 (14 : Int32) v1 v2) = r120
  refine own_go (B := T119.setTop (mkF m 517 #[.val (.int p1), .val (.long p2), .second, .val (.int p3), .val (.int p4), .val (.int v1), .val (.int v2), .val (.int v3), .val (.ref b4), .val (.int (1 : Int32)), .unset, .unset] [(.int v2), (.int v1), (.int (15 : Int32)), (.long p2), (.int ((((((((((((((r92 + r94) + r96) + r98) + r100) + r102) + r104) + r106) + r108) + r110) + r112) + r114) + r116) + r118) + r120))])) (fun tgt cont => ?_) ?_
  · refine XS.iadd X119.here hx rfl (hb hby at_509) rfl ?_
    refine XS.lloadN X119.here hx rfl (hb hby at_510) rfl ?_
    refine XT.bipushV X119.here hx rfl (15 : Int32) (hb hby at_511) rfl ?_
    refine XS.iload X119.here hx rfl (hb hby at_513) rfl ?_
    refine XS.iload X119.here hx rfl (hb hby at_515) rfl ?_
    exact cont
  -- pc 517: BuilderAddEdgePinLaw.hit
  obtain ⟨_, _, ⟨T121, L121, k121, n121⟩, -, X121, ⟨Lc121, hQ121, l121, y121, z121⟩, st121⟩ := Jvm.LawKit.callS X119 hx (y := (⟨"com/example/cyclecut/cyclecut/graph/BuilderAddEdgePinLaw", "hit", "(JIII)I"⟩ : MethodName)) hown (mvT hZ (hw _ (List.mem_of_getElem? (i := 55) rfl))) (mvT hZ (hw _ (List.mem_of_getElem? (i := 56) rfl))) (mvT hZ (hw _ (List.mem_of_getElem? (i := 19) rfl))) (mvT hZ (hw _ (List.mem_of_getElem? (i := 57) rfl))) (by decide) (backOf (W := 1) (rm10 l Z a0 hw [] p2 (15 : Int32) v1 v2 T85.heap n0 zp85 n4) hZ (hw _ (List.mem_of_getElem? (i := 57) rfl)) (hw _ (List.mem_of_getElem? (i := 19) rfl)) (by decide) (by decide)) (g := (mkF m 517 #[.val (.int p1), .val (.long p2), .second, .val (.int p3), .val (.int p4), .val (.int v1), .val (.int v2), .val (.int v3), .val (.ref b4), .val (.int (1 : Int32)), .unset, .unset] [(.int v2), (.int v1), (.int (15 : Int32)), (.long p2), (.int ((((((((((((((r92 + r94) + r96) + r98) + r100) + r102) + r104) + r106) + r108) + r110) + r112) + r114) + r116) + r118) + r120))])) rfl (by rw [hml]; rfl) (argsL := [(.long p2), (.int (15 : Int32)), (.int v1), (.int v2)]) (rest := [(.int ((((((((((((((r92 + r94) + r96) + r98) + r100) + r102) + r104) + r106) + r108) + r110) + r112) + r114) + r116) + r118) + r120))]) (lenOf own_pd8 rfl) rfl (by show 2 * 0 + _ ≤ _; exact Nat.le_of_eq rfl) (hb hby at_517) (fun _ _ => ⟨rfl, e119, (by decide : 0 + 1 + 2 + 0 + 0 + 0 + 0 + 0 + 0 + 0 + 0 + 0 + 0 + 0 + 0 + 0 + 0 + 0 + 0 + 0 + 0 + 0 + 0 + 0 + 0 + 0 + 0 + 0 + 0 + 1 + 0 + 0 + 0 + 0 + 0 + 0 + 0 + 0 + 0 + 0 + 0 + 0 + 0 + 0 + 0 + 0 ≤ _), (by decide : 0 + 4 + 24 + 0 + 0 + 0 + 0 + 0 + 0 + 0 + 0 + 0 + 0 + 0 + 0 + 0 + 0 + 0 + 0 + 0 + 0 + 0 + 0 + 0 + 0 + 0 + 0 + 0 + 0 + 32 + 0 + 0 + 0 + 0 + 0 + 0 + 0 + 0 + 0 + 0 + 0 + 0 + 0 + 0 + 0 + 0 ≤ _)⟩)
  dsimp only [Pt.U, Pt.locs, Pt.cells, Pt.slots] at X121 l121 y121 z121 st121 hQ121
  subst y121 z121
  obtain ⟨rfl, N121q, e121⟩ := hQ121
  have N121 : Fr n0 L121 := by rw [l121]; exact Fr.app N119 N121q
  refine own_go (fun tgt cont => st121 tgt cont) ?_
  show own_Go p e below s (Q0 n0) room_1.cells room_1.slots (T121.setTop (mkF m 520 #[.val (.int p1), .val (.long p2), .second, .val (.int p3), .val (.int p4), .val (.int v1), .val (.int v2), .val (.int v3), .val (.ref b4), .val (.int (1 : Int32)), .unset, .unset] [(.int (own_hit p2 (15 : Int32) v1 v2)), (.int ((((((((((((((r92 + r94) + r96) + r98) + r100) + r102) + r104) + r106) + r108) + r110) + r112) + r114) + r116) + r118) + r120))]))
  generalize hr122 : (own_hit p2 (15 : Int32) v1 v2) = r122
  refine own_go (B := T121.setTop (mkF m 528 #[.val (.int p1), .val (.long p2), .second, .val (.int p3), .val (.int p4), .val (.int v1), .val (.int v2), .val (.int v3), .val (.ref b4), .val (.int (1 : Int32)), .unset, .unset] [(.int v2), (.int v1), (.int (16 : Int32)), (.long p2), (.int (((((((((((((((r92 + r94) + r96) + r98) + r100) + r102) + r104) + r106) + r108) + r110) + r112) + r114) + r116) + r118) + r120) + r122))])) (fun tgt cont => ?_) ?_
  · refine XS.iadd X121.here hx rfl (hb hby at_520) rfl ?_
    refine XS.lloadN X121.here hx rfl (hb hby at_521) rfl ?_
    refine XT.bipushV X121.here hx rfl (16 : Int32) (hb hby at_522) rfl ?_
    refine XS.iload X121.here hx rfl (hb hby at_524) rfl ?_
    refine XS.iload X121.here hx rfl (hb hby at_526) rfl ?_
    exact cont
  -- pc 528: BuilderAddEdgePinLaw.hit
  obtain ⟨_, _, ⟨T123, L123, k123, n123⟩, -, X123, ⟨Lc123, hQ123, l123, y123, z123⟩, st123⟩ := Jvm.LawKit.callS X121 hx (y := (⟨"com/example/cyclecut/cyclecut/graph/BuilderAddEdgePinLaw", "hit", "(JIII)I"⟩ : MethodName)) hown (mvT hZ (hw _ (List.mem_of_getElem? (i := 55) rfl))) (mvT hZ (hw _ (List.mem_of_getElem? (i := 56) rfl))) (mvT hZ (hw _ (List.mem_of_getElem? (i := 19) rfl))) (mvT hZ (hw _ (List.mem_of_getElem? (i := 57) rfl))) (by decide) (backOf (W := 1) (rm10 l Z a0 hw [] p2 (16 : Int32) v1 v2 T85.heap n0 zp85 n4) hZ (hw _ (List.mem_of_getElem? (i := 57) rfl)) (hw _ (List.mem_of_getElem? (i := 19) rfl)) (by decide) (by decide)) (g := (mkF m 528 #[.val (.int p1), .val (.long p2), .second, .val (.int p3), .val (.int p4), .val (.int v1), .val (.int v2), .val (.int v3), .val (.ref b4), .val (.int (1 : Int32)), .unset, .unset] [(.int v2), (.int v1), (.int (16 : Int32)), (.long p2), (.int (((((((((((((((r92 + r94) + r96) + r98) + r100) + r102) + r104) + r106) + r108) + r110) + r112) + r114) + r116) + r118) + r120) + r122))])) rfl (by rw [hml]; rfl) (argsL := [(.long p2), (.int (16 : Int32)), (.int v1), (.int v2)]) (rest := [(.int (((((((((((((((r92 + r94) + r96) + r98) + r100) + r102) + r104) + r106) + r108) + r110) + r112) + r114) + r116) + r118) + r120) + r122))]) (lenOf own_pd8 rfl) rfl (by show 2 * 0 + _ ≤ _; exact Nat.le_of_eq rfl) (hb hby at_528) (fun _ _ => ⟨rfl, e121, (by decide : 0 + 1 + 2 + 0 + 0 + 0 + 0 + 0 + 0 + 0 + 0 + 0 + 0 + 0 + 0 + 0 + 0 + 0 + 0 + 0 + 0 + 0 + 0 + 0 + 0 + 0 + 0 + 0 + 0 + 1 + 0 + 0 + 0 + 0 + 0 + 0 + 0 + 0 + 0 + 0 + 0 + 0 + 0 + 0 + 0 + 0 + 0 ≤ _), (by decide : 0 + 4 + 24 + 0 + 0 + 0 + 0 + 0 + 0 + 0 + 0 + 0 + 0 + 0 + 0 + 0 + 0 + 0 + 0 + 0 + 0 + 0 + 0 + 0 + 0 + 0 + 0 + 0 + 0 + 32 + 0 + 0 + 0 + 0 + 0 + 0 + 0 + 0 + 0 + 0 + 0 + 0 + 0 + 0 + 0 + 0 + 0 ≤ _)⟩)
  dsimp only [Pt.U, Pt.locs, Pt.cells, Pt.slots] at X123 l123 y123 z123 st123 hQ123
  subst y123 z123
  obtain ⟨rfl, N123q, e123⟩ := hQ123
  have N123 : Fr n0 L123 := by rw [l123]; exact Fr.app N121 N123q
  refine own_go (fun tgt cont => st123 tgt cont) ?_
  show own_Go p e below s (Q0 n0) room_1.cells room_1.slots (T123.setTop (mkF m 531 #[.val (.int p1), .val (.long p2), .second, .val (.int p3), .val (.int p4), .val (.int v1), .val (.int v2), .val (.int v3), .val (.ref b4), .val (.int (1 : Int32)), .unset, .unset] [(.int (own_hit p2 (16 : Int32) v1 v2)), (.int (((((((((((((((r92 + r94) + r96) + r98) + r100) + r102) + r104) + r106) + r108) + r110) + r112) + r114) + r116) + r118) + r120) + r122))]))
  generalize hr124 : (own_hit p2 (16 : Int32) v1 v2) = r124
  refine own_go (B := T123.setTop (mkF m 539 #[.val (.int p1), .val (.long p2), .second, .val (.int p3), .val (.int p4), .val (.int v1), .val (.int v2), .val (.int v3), .val (.ref b4), .val (.int (1 : Int32)), .unset, .unset] [(.int v2), (.int v1), (.int (17 : Int32)), (.long p2), (.int ((((((((((((((((r92 + r94) + r96) + r98) + r100) + r102) + r104) + r106) + r108) + r110) + r112) + r114) + r116) + r118) + r120) + r122) + r124))])) (fun tgt cont => ?_) ?_
  · refine XS.iadd X123.here hx rfl (hb hby at_531) rfl ?_
    refine XS.lloadN X123.here hx rfl (hb hby at_532) rfl ?_
    refine XT.bipushV X123.here hx rfl (17 : Int32) (hb hby at_533) rfl ?_
    refine XS.iload X123.here hx rfl (hb hby at_535) rfl ?_
    refine XS.iload X123.here hx rfl (hb hby at_537) rfl ?_
    exact cont
  -- pc 539: BuilderAddEdgePinLaw.hit
  obtain ⟨_, _, ⟨T125, L125, k125, n125⟩, -, X125, ⟨Lc125, hQ125, l125, y125, z125⟩, st125⟩ := Jvm.LawKit.callS X123 hx (y := (⟨"com/example/cyclecut/cyclecut/graph/BuilderAddEdgePinLaw", "hit", "(JIII)I"⟩ : MethodName)) hown (mvT hZ (hw _ (List.mem_of_getElem? (i := 55) rfl))) (mvT hZ (hw _ (List.mem_of_getElem? (i := 56) rfl))) (mvT hZ (hw _ (List.mem_of_getElem? (i := 19) rfl))) (mvT hZ (hw _ (List.mem_of_getElem? (i := 57) rfl))) (by decide) (backOf (W := 1) (rm10 l Z a0 hw [] p2 (17 : Int32) v1 v2 T85.heap n0 zp85 n4) hZ (hw _ (List.mem_of_getElem? (i := 57) rfl)) (hw _ (List.mem_of_getElem? (i := 19) rfl)) (by decide) (by decide)) (g := (mkF m 539 #[.val (.int p1), .val (.long p2), .second, .val (.int p3), .val (.int p4), .val (.int v1), .val (.int v2), .val (.int v3), .val (.ref b4), .val (.int (1 : Int32)), .unset, .unset] [(.int v2), (.int v1), (.int (17 : Int32)), (.long p2), (.int ((((((((((((((((r92 + r94) + r96) + r98) + r100) + r102) + r104) + r106) + r108) + r110) + r112) + r114) + r116) + r118) + r120) + r122) + r124))])) rfl (by rw [hml]; rfl) (argsL := [(.long p2), (.int (17 : Int32)), (.int v1), (.int v2)]) (rest := [(.int ((((((((((((((((r92 + r94) + r96) + r98) + r100) + r102) + r104) + r106) + r108) + r110) + r112) + r114) + r116) + r118) + r120) + r122) + r124))]) (lenOf own_pd8 rfl) rfl (by show 2 * 0 + _ ≤ _; exact Nat.le_of_eq rfl) (hb hby at_539) (fun _ _ => ⟨rfl, e123, (by decide : 0 + 1 + 2 + 0 + 0 + 0 + 0 + 0 + 0 + 0 + 0 + 0 + 0 + 0 + 0 + 0 + 0 + 0 + 0 + 0 + 0 + 0 + 0 + 0 + 0 + 0 + 0 + 0 + 0 + 1 + 0 + 0 + 0 + 0 + 0 + 0 + 0 + 0 + 0 + 0 + 0 + 0 + 0 + 0 + 0 + 0 + 0 + 0 ≤ _), (by decide : 0 + 4 + 24 + 0 + 0 + 0 + 0 + 0 + 0 + 0 + 0 + 0 + 0 + 0 + 0 + 0 + 0 + 0 + 0 + 0 + 0 + 0 + 0 + 0 + 0 + 0 + 0 + 0 + 0 + 32 + 0 + 0 + 0 + 0 + 0 + 0 + 0 + 0 + 0 + 0 + 0 + 0 + 0 + 0 + 0 + 0 + 0 + 0 ≤ _)⟩)
  dsimp only [Pt.U, Pt.locs, Pt.cells, Pt.slots] at X125 l125 y125 z125 st125 hQ125
  subst y125 z125
  obtain ⟨rfl, N125q, e125⟩ := hQ125
  have N125 : Fr n0 L125 := by rw [l125]; exact Fr.app N123 N125q
  refine own_go (fun tgt cont => st125 tgt cont) ?_
  show own_Go p e below s (Q0 n0) room_1.cells room_1.slots (T125.setTop (mkF m 542 #[.val (.int p1), .val (.long p2), .second, .val (.int p3), .val (.int p4), .val (.int v1), .val (.int v2), .val (.int v3), .val (.ref b4), .val (.int (1 : Int32)), .unset, .unset] [(.int (own_hit p2 (17 : Int32) v1 v2)), (.int ((((((((((((((((r92 + r94) + r96) + r98) + r100) + r102) + r104) + r106) + r108) + r110) + r112) + r114) + r116) + r118) + r120) + r122) + r124))]))
  generalize hr126 : (own_hit p2 (17 : Int32) v1 v2) = r126
  refine own_go (B := T125.setTop (mkF m 543 #[.val (.int p1), .val (.long p2), .second, .val (.int p3), .val (.int p4), .val (.int v1), .val (.int v2), .val (.int v3), .val (.ref b4), .val (.int (1 : Int32)), .unset, .unset] [(.int (((((((((((((((((r92 + r94) + r96) + r98) + r100) + r102) + r104) + r106) + r108) + r110) + r112) + r114) + r116) + r118) + r120) + r122) + r124) + r126))])) (fun tgt cont => ?_) ?_
  · refine XS.iadd X125.here hx rfl (hb hby at_542) rfl ?_
    exact cont
  generalize hv127 : (((((((((((((((((r92 + r94) + r96) + r98) + r100) + r102) + r104) + r106) + r108) + r110) + r112) + r114) + r116) + r118) + r120) + r122) + r124) + r126) = v127
  refine own_go (B := T125.setTop (mkF m 551 #[.val (.int p1), .val (.long p2), .second, .val (.int p3), .val (.int p4), .val (.int v1), .val (.int v2), .val (.int v3), .val (.ref b4), .val (.int (1 : Int32)), .val (.int v127), .unset] [(.int v2), (.ref b4), (.int (1 : Int32))])) (fun tgt cont => ?_) ?_
  · refine XS.istore X125.here hx rfl (hb hby at_543) rfl (l' := #[.val (.int p1), .val (.long p2), .second, .val (.int p3), .val (.int p4), .val (.int v1), .val (.int v2), .val (.int v3), .val (.ref b4), .val (.int (1 : Int32)), .val (.int v127), .unset]) rfl ?_
    refine XS.iload X125.here hx rfl (hb hby at_545) rfl ?_
    refine XS.aload X125.here hx rfl (hb hby at_547) rfl rfl ?_
    refine XS.iload X125.here hx rfl (hb hby at_549) rfl ?_
    exact cont
  -- pc 551: Graph$Builder.degree
  obtain ⟨cq128, kq128, qa128, qb128, qc128⟩ := isOf hZ e125 ex85_0
  obtain ⟨_, _, ⟨T128, L128, k128, n128⟩, -, X128, ⟨Lc128, hQ128, l128, y128, z128⟩, st128⟩ := X125.virtualBack hx (y := (⟨"com/example/cyclecut/cyclecut/graph/Graph$Builder", "degree", "(I)I"⟩ : MethodName)) (z := (⟨"com/example/cyclecut/cyclecut/graph/Graph$Builder", "degree", "(I)I"⟩ : MethodName)) hown (mvT hZ (hw _ (List.mem_of_getElem? (i := 58) rfl))) (mvT hZ (hw _ (List.mem_of_getElem? (i := 59) rfl))) (notFace_of_selects (args := #[]) (mvT hZ (hw _ (List.mem_of_getElem? (i := 61) rfl)))) (mvT hZ (hw _ (List.mem_of_getElem? (i := 61) rfl))) (mvT hZ (hw _ (List.mem_of_getElem? (i := 60) rfl))) (by decide) (backOf (W := 1) (rm11 l Z a0 hw [] b4 v2 b5_0 w89 T85.heap n0 zp85 ex85_0 fa85_1 fa85_4 (own_dB DG9 w1)) hZ (hw _ (List.mem_of_getElem? (i := 62) rfl)) (hw _ (List.mem_of_getElem? (i := 3) rfl)) (by decide) (by decide)) qa128 qc128 (g := (mkF m 551 #[.val (.int p1), .val (.long p2), .second, .val (.int p3), .val (.int p4), .val (.int v1), .val (.int v2), .val (.int v3), .val (.ref b4), .val (.int (1 : Int32)), .val (.int v127), .unset] [(.int v2), (.ref b4), (.int (1 : Int32))])) rfl (by rw [hml]; rfl) (Steps.refl _) (argsL := [(.int v2)]) (rest := [(.int (1 : Int32))]) (lenOf own_pd9 rfl) rfl (by show 2 * 0 + _ ≤ _; exact Nat.le_of_eq rfl) (hb hby at_551) (fun _ _ => ⟨rfl, e125, (by decide : 0 + 1 + 2 + 0 + 0 + 0 + 0 + 0 + 0 + 0 + 0 + 0 + 0 + 0 + 0 + 0 + 0 + 0 + 0 + 0 + 0 + 0 + 0 + 0 + 0 + 0 + 0 + 0 + 0 + 1 + 0 + 0 + 0 + 0 + 0 + 0 + 0 + 0 + 0 + 0 + 0 + 0 + 0 + 0 + 0 + 0 + 0 + 0 + 0 ≤ _), (by decide : 0 + 4 + 24 + 0 + 0 + 0 + 0 + 0 + 0 + 0 + 0 + 0 + 0 + 0 + 0 + 0 + 0 + 0 + 0 + 0 + 0 + 0 + 0 + 0 + 0 + 0 + 0 + 0 + 0 + 32 + 0 + 0 + 0 + 0 + 0 + 0 + 0 + 0 + 0 + 0 + 0 + 0 + 0 + 0 + 0 + 0 + 0 + 0 + 0 ≤ _)⟩)
  dsimp only [Pt.U, Pt.locs, Pt.cells, Pt.slots] at X128 l128 y128 z128 st128 hQ128
  subst y128 z128
  obtain ⟨rfl, N128q, e128⟩ := hQ128
  have N128 : Fr n0 L128 := by rw [l128]; exact Fr.app N125 N128q
  refine own_go (fun tgt cont => st128.trans cont) ?_
  show own_Go p e below s (Q0 n0) room_1.cells room_1.slots (T128.setTop (mkF m 554 #[.val (.int p1), .val (.long p2), .second, .val (.int p3), .val (.int p4), .val (.int v1), .val (.int v2), .val (.int v3), .val (.ref b4), .val (.int (1 : Int32)), .val (.int v127), .unset] [(.int (own_bdg_r v2 w89)), (.int (1 : Int32))]))
  generalize hr129 : (own_bdg_r v2 w89) = r129
  refine own_go (B := T128.setTop (mkF m 556 #[.val (.int p1), .val (.long p2), .second, .val (.int p3), .val (.int p4), .val (.int v1), .val (.int v2), .val (.int v3), .val (.ref b4), .val (.int (1 : Int32)), .val (.int v127), .unset] [(.int v127), (.int r129), (.int (1 : Int32))])) (fun tgt cont => ?_) ?_
  · refine XS.iload X128.here hx rfl (hb hby at_554) rfl ?_
    exact cont
  have q1 : r129 = v127 := by
    rw [← hr129, ← hv127, ← hr92, ← hr94, ← hr96, ← hr98, ← hr100, ← hr102, ← hr104, ← hr106, ← hr108, ← hr110, ← hr112, ← hr114, ← hr116, ← hr118, ← hr120, ← hr122, ← hr124, ← hr126]
    have D := DG9
    rw [← hr10, ← hr12, ← hr19, ← hr21, ← hr28, ← hr30, ← hr37, ← hr39, ← hr46, ← hr48, ← hr55, ← hr57, ← hr64, ← hr66, ← hr73, ← hr75, ← hr82, ← hr84] at D
    exact own_deg18 D w1
  refine own_go (B := T128.setTop (mkF m 569 #[.val (.int p1), .val (.long p2), .second, .val (.int p3), .val (.int p4), .val (.int v1), .val (.int v2), .val (.int v3), .val (.ref b4), .val (.int (1 : Int32)), .val (.int v127), .unset] [(.ref b4)])) (fun tgt cont => ?_) ?_
  · refine XS.icmpNo X128.here hx rfl (hb hby at_556) rfl (XT.ii_ne_f q1) ?_
    refine XT.iconstV X128.here hx rfl (1 : Int32) (hb hby at_559) rfl ?_
    refine XS.goto X128.here hx rfl (pc0 := 560) (pc' := 564) rfl (hb hby at_560) (by decide) (by decide) ?_
    refine XS.iand X128.here hx rfl (hb hby at_564) rfl ?_
    refine XS.istore X128.here hx rfl (hb hby at_565) rfl (l' := #[.val (.int p1), .val (.long p2), .second, .val (.int p3), .val (.int p4), .val (.int v1), .val (.int v2), .val (.int v3), .val (.ref b4), .val (.int (1 : Int32)), .val (.int v127), .unset]) rfl ?_
    refine XS.aload X128.here hx rfl (hb hby at_567) rfl rfl ?_
    exact cont
  -- pc 569: Graph$Builder.build
  have f131 := (f86.keep K85)
  obtain ⟨cq130, kq130, qa130, qb130, qc130⟩ := isOf hZ e128 ex85_0
  obtain ⟨_, _, ⟨T130, L130, k130, n130⟩, -, X130, ⟨Lc130, hQ130, l130, y130, z130⟩, st130⟩ := X128.virtualBack hx (y := (⟨"com/example/cyclecut/cyclecut/graph/Graph$Builder", "build", "()Lcom/example/cyclecut/cyclecut/graph/Graph;"⟩ : MethodName)) (z := (⟨"com/example/cyclecut/cyclecut/graph/Graph$Builder", "build", "()Lcom/example/cyclecut/cyclecut/graph/Graph;"⟩ : MethodName)) hown (mvT hZ (hw _ (List.mem_of_getElem? (i := 63) rfl))) (mvT hZ (hw _ (List.mem_of_getElem? (i := 64) rfl))) (notFace_of_selects (args := #[]) (mvT hZ (hw _ (List.mem_of_getElem? (i := 66) rfl)))) (mvT hZ (hw _ (List.mem_of_getElem? (i := 66) rfl))) (mvT hZ (hw _ (List.mem_of_getElem? (i := 65) rfl))) (by decide) (backOf (W := 0) (rm12 l Z a0 hw [] b4 v1 b5_0 b85_0 (9 : Int32) w89 [r10, r12, r19, r21, r28, r30, r37, r39, r46, r48, r55, r57, r64, r66, r73, r75, r82, r84, (0 : Int32), (0 : Int32), (0 : Int32), (0 : Int32), (0 : Int32), (0 : Int32), (0 : Int32), (0 : Int32), (0 : Int32), (0 : Int32), (0 : Int32), (0 : Int32), (0 : Int32), (0 : Int32)] T85.heap n0 zp85 ex85_0 fa85_0 fa85_1 fa85_2 fa85_3 fa85_4 f131 al90 (own_hd9 rfl) (by decide) (by decide) n2 n3 (own_hle18 ..) DG9.1 (own_gb18 n1 DG9)) hZ (hw _ (List.mem_of_getElem? (i := 67) rfl)) (hw _ (List.mem_of_getElem? (i := 3) rfl)) (by decide) (by decide)) qa130 qc130 (g := (mkF m 569 #[.val (.int p1), .val (.long p2), .second, .val (.int p3), .val (.int p4), .val (.int v1), .val (.int v2), .val (.int v3), .val (.ref b4), .val (.int (1 : Int32)), .val (.int v127), .unset] [(.ref b4)])) rfl (by rw [hml]; rfl) (Steps.refl _) (argsL := []) (rest := []) (lenOf own_pd10 rfl) rfl (by show 2 * 0 + _ ≤ _; exact Nat.le_of_eq rfl) (hb hby at_569) (fun _ _ => ⟨rfl, e128, (by decide : 0 + 1 + 2 + 0 + 0 + 0 + 0 + 0 + 0 + 0 + 0 + 0 + 0 + 0 + 0 + 0 + 0 + 0 + 0 + 0 + 0 + 0 + 0 + 0 + 0 + 0 + 0 + 0 + 0 + 1 + 0 + 0 + 0 + 0 + 0 + 0 + 0 + 0 + 0 + 0 + 0 + 0 + 0 + 0 + 0 + 0 + 0 + 0 + 0 + 7 ≤ _), (by decide : 0 + 4 + 24 + 0 + 0 + 0 + 0 + 0 + 0 + 0 + 0 + 0 + 0 + 0 + 0 + 0 + 0 + 0 + 0 + 0 + 0 + 0 + 0 + 0 + 0 + 0 + 0 + 0 + 0 + 32 + 0 + 0 + 0 + 0 + 0 + 0 + 0 + 0 + 0 + 0 + 0 + 0 + 0 + 0 + 0 + 0 + 0 + 0 + 0 + 150 ≤ _)⟩)
  dsimp only [Pt.U, Pt.locs, Pt.cells, Pt.slots] at X130 l130 y130 z130 st130 hQ130
  subst y130 z130
  have f132 := (f87.keep K85)
  obtain ⟨b130, xe130, xf130, xn130, xs130, rfl, N130q, K130, gb130, eg130, fl130_0, fl130_1, fl130_2, fl130_3, fl130_4, al130_0, al130_1, al130_2, al130_3⟩ := hQ130
  have N130 : Fr n0 L130 := by rw [l130]; exact Fr.app N128 N130q
  have kk130 : Keep h0 T130.heap [] := kk85.trans K130 all0
  have zp130 : n0 ≤ T130.heap.size := Nat.le_trans Z0 kk130.1
  generalize hw133 : (own_cof_l ((2 : Int32) * (9 : Int32)) [r10, r12, r19, r21, r28, r30, r37, r39, r46, r48, r55, r57, r64, r66, r73, r75, r82, r84, (0 : Int32), (0 : Int32), (0 : Int32), (0 : Int32), (0 : Int32), (0 : Int32), (0 : Int32), (0 : Int32), (0 : Int32), (0 : Int32), (0 : Int32), (0 : Int32), (0 : Int32), (0 : Int32)]) = w133 at al130_0
  generalize hw134 : (own_fsL w89 v1.toNatClampNeg (List.replicate (v1.toNatClampNeg + 1) 0)) = w134 at al130_1
  generalize hw135 : (own_l1 (own_cof_l ((2 : Int32) * (9 : Int32)) [r10, r12, r19, r21, r28, r30, r37, r39, r46, r48, r55, r57, r64, r66, r73, r75, r82, r84, (0 : Int32), (0 : Int32), (0 : Int32), (0 : Int32), (0 : Int32), (0 : Int32), (0 : Int32), (0 : Int32), (0 : Int32), (0 : Int32), (0 : Int32), (0 : Int32), (0 : Int32), (0 : Int32)]) (own_cof_l v1 (own_fsL w89 v1.toNatClampNeg (List.replicate (v1.toNatClampNeg + 1) 0))) (List.replicate (own_cof_l ((2 : Int32) * (9 : Int32)) [r10, r12, r19, r21, r28, r30, r37, r39, r46, r48, r55, r57, r64, r66, r73, r75, r82, r84, (0 : Int32), (0 : Int32), (0 : Int32), (0 : Int32), (0 : Int32), (0 : Int32), (0 : Int32), (0 : Int32), (0 : Int32), (0 : Int32), (0 : Int32), (0 : Int32), (0 : Int32), (0 : Int32)]).length 0) (own_cof_l ((2 : Int32) * (9 : Int32)) [r10, r12, r19, r21, r28, r30, r37, r39, r46, r48, r55, r57, r64, r66, r73, r75, r82, r84, (0 : Int32), (0 : Int32), (0 : Int32), (0 : Int32), (0 : Int32), (0 : Int32), (0 : Int32), (0 : Int32), (0 : Int32), (0 : Int32), (0 : Int32), (0 : Int32), (0 : Int32), (0 : Int32)]).length) = w135 at al130_2
  generalize hw136 : (own_l2 (own_cof_l ((2 : Int32) * (9 : Int32)) [r10, r12, r19, r21, r28, r30, r37, r39, r46, r48, r55, r57, r64, r66, r73, r75, r82, r84, (0 : Int32), (0 : Int32), (0 : Int32), (0 : Int32), (0 : Int32), (0 : Int32), (0 : Int32), (0 : Int32), (0 : Int32), (0 : Int32), (0 : Int32), (0 : Int32), (0 : Int32), (0 : Int32)]) (own_cof_l v1 (own_fsL w89 v1.toNatClampNeg (List.replicate (v1.toNatClampNeg + 1) 0))) (List.replicate (own_cof_l ((2 : Int32) * (9 : Int32)) [r10, r12, r19, r21, r28, r30, r37, r39, r46, r48, r55, r57, r64, r66, r73, r75, r82, r84, (0 : Int32), (0 : Int32), (0 : Int32), (0 : Int32), (0 : Int32), (0 : Int32), (0 : Int32), (0 : Int32), (0 : Int32), (0 : Int32), (0 : Int32), (0 : Int32), (0 : Int32), (0 : Int32)]).length 0) (own_cof_l ((2 : Int32) * (9 : Int32)) [r10, r12, r19, r21, r28, r30, r37, r39, r46, r48, r55, r57, r64, r66, r73, r75, r82, r84, (0 : Int32), (0 : Int32), (0 : Int32), (0 : Int32), (0 : Int32), (0 : Int32), (0 : Int32), (0 : Int32), (0 : Int32), (0 : Int32), (0 : Int32), (0 : Int32), (0 : Int32), (0 : Int32)]).length) = w136 at al130_3
  refine own_go (fun tgt cont => st130.trans cont) ?_
  show own_Go p e below s (Q0 n0) room_1.cells room_1.slots (T130.setTop (mkF m 572 #[.val (.int p1), .val (.long p2), .second, .val (.int p3), .val (.int p4), .val (.int v1), .val (.int v2), .val (.int v3), .val (.ref b4), .val (.int (1 : Int32)), .val (.int v127), .unset] [(.ref b130)]))
  refine own_go (B := T130.setTop (mkF m 574 #[.val (.int p1), .val (.long p2), .second, .val (.int p3), .val (.int p4), .val (.int v1), .val (.int v2), .val (.int v3), .val (.ref b4), .val (.int (1 : Int32)), .val (.int v127), .val (.ref b130)] [])) (fun tgt cont => ?_) ?_
  · refine XS.astore X130.here hx rfl (hb hby at_572) rfl rfl (l' := #[.val (.int p1), .val (.long p2), .second, .val (.int p3), .val (.int p4), .val (.int v1), .val (.int v2), .val (.int v3), .val (.ref b4), .val (.int (1 : Int32)), .val (.int v127), .val (.ref b130)]) rfl ?_
    exact cont
  have le : w133 = [r10, r12, r19, r21, r28, r30, r37, r39, r46, r48, r55, r57, r64, r66, r73, r75, r82, r84] := hw133.symm.trans (own_LE18 ..)
  have ll : w133.length = 18 := by rw [le]; rfl
  refine own_go (B := T130.setTop (mkF m 580 #[.val (.int p1), .val (.long p2), .second, .val (.int p3), .val (.int p4), .val (.int v1), .val (.int v2), .val (.int v3), .val (.ref b4), .val (.int (1 : Int32)), .val (.int v127), .val (.ref b130)] [(.int v3), (.ref b130), (.int (1 : Int32))])) (fun tgt cont => ?_) ?_
  · refine XS.iload X130.here hx rfl (hb hby at_574) rfl ?_
    refine XS.aload X130.here hx rfl (hb hby at_576) rfl rfl ?_
    refine XS.iload X130.here hx rfl (hb hby at_578) rfl ?_
    exact cont
  -- pc 580: Graph.firstEnd
  obtain ⟨cq137, kq137, qa137, qb137, qc137⟩ := isOf hZ rfl eg130
  obtain ⟨_, _, ⟨T137, L137, k137, n137⟩, -, X137, ⟨Lc137, hQ137, l137, y137, z137⟩, st137⟩ := X130.virtualBack hx (y := (⟨"com/example/cyclecut/cyclecut/graph/Graph", "firstEnd", "(I)I"⟩ : MethodName)) (z := (⟨"com/example/cyclecut/cyclecut/graph/Graph", "firstEnd", "(I)I"⟩ : MethodName)) hown (mvT hZ (hw _ (List.mem_of_getElem? (i := 95) rfl))) (mvT hZ (hw _ (List.mem_of_getElem? (i := 96) rfl))) (notFace_of_selects (args := #[]) (mvT hZ (hw _ (List.mem_of_getElem? (i := 98) rfl)))) (mvT hZ (hw _ (List.mem_of_getElem? (i := 98) rfl))) (mvT hZ (hw _ (List.mem_of_getElem? (i := 97) rfl))) (by decide) (backOf (W := 1) (rm14 l Z a0 hw [] b130 v3 xe130 w133 T130.heap n0 zp130 eg130 fl130_1 al130_0 (own_q1 k1) (own_q2 k1 ll) (own_q3 k1 ll)) hZ (hw _ (List.mem_of_getElem? (i := 99) rfl)) (hw _ (List.mem_of_getElem? (i := 70) rfl)) (by decide) (by decide)) qa137 qc137 (g := (mkF m 580 #[.val (.int p1), .val (.long p2), .second, .val (.int p3), .val (.int p4), .val (.int v1), .val (.int v2), .val (.int v3), .val (.ref b4), .val (.int (1 : Int32)), .val (.int v127), .val (.ref b130)] [(.int v3), (.ref b130), (.int (1 : Int32))])) rfl (by rw [hml]; rfl) (Steps.refl _) (argsL := [(.int v3)]) (rest := [(.int (1 : Int32))]) (lenOf own_pd9 rfl) rfl (by show 2 * 0 + _ ≤ _; exact Nat.le_of_eq rfl) (hb hby at_580) (fun _ _ => ⟨rfl, rfl, (by decide : 0 + 1 + 2 + 0 + 0 + 0 + 0 + 0 + 0 + 0 + 0 + 0 + 0 + 0 + 0 + 0 + 0 + 0 + 0 + 0 + 0 + 0 + 0 + 0 + 0 + 0 + 0 + 0 + 0 + 1 + 0 + 0 + 0 + 0 + 0 + 0 + 0 + 0 + 0 + 0 + 0 + 0 + 0 + 0 + 0 + 0 + 0 + 0 + 0 + 7 + 0 ≤ _), (by decide : 0 + 4 + 24 + 0 + 0 + 0 + 0 + 0 + 0 + 0 + 0 + 0 + 0 + 0 + 0 + 0 + 0 + 0 + 0 + 0 + 0 + 0 + 0 + 0 + 0 + 0 + 0 + 0 + 0 + 32 + 0 + 0 + 0 + 0 + 0 + 0 + 0 + 0 + 0 + 0 + 0 + 0 + 0 + 0 + 0 + 0 + 0 + 0 + 0 + 150 + 0 ≤ _)⟩)
  dsimp only [Pt.U, Pt.locs, Pt.cells, Pt.slots] at X137 l137 y137 z137 st137 hQ137
  subst y137 z137
  obtain ⟨rfl, N137q, e137⟩ := hQ137
  have N137 : Fr n0 L137 := by rw [l137]; exact Fr.app N130 N137q
  refine own_go (fun tgt cont => st137.trans cont) ?_
  show own_Go p e below s (Q0 n0) room_1.cells room_1.slots (T137.setTop (mkF m 583 #[.val (.int p1), .val (.long p2), .second, .val (.int p3), .val (.int p4), .val (.int v1), .val (.int v2), .val (.int v3), .val (.ref b4), .val (.int (1 : Int32)), .val (.int v127), .val (.ref b130)] [(.int (own_gfir_r v3 w133)), (.int (1 : Int32))]))
  generalize hr138 : (own_gfir_r v3 w133) = r138
  refine own_go (B := T137.setTop (mkF m 590 #[.val (.int p1), .val (.long p2), .second, .val (.int p3), .val (.int p4), .val (.int v1), .val (.int v2), .val (.int v3), .val (.ref b4), .val (.int (1 : Int32)), .val (.int v127), .val (.ref b130)] [(.int v1), (.int ((2 : Int32) * v3)), (.long p2), (.int r138), (.int (1 : Int32))])) (fun tgt cont => ?_) ?_
  · refine XS.lloadN X137.here hx rfl (hb hby at_583) rfl ?_
    refine XT.iconstV X137.here hx rfl (2 : Int32) (hb hby at_584) rfl ?_
    refine XS.iload X137.here hx rfl (hb hby at_585) rfl ?_
    refine XS.imul X137.here hx rfl (hb hby at_587) rfl ?_
    refine XS.iload X137.here hx rfl (hb hby at_588) rfl ?_
    exact cont
  -- pc 590: BuilderAddEdgePinLaw.end
  obtain ⟨_, _, ⟨T139, L139, k139, n139⟩, -, X139, ⟨Lc139, hQ139, l139, y139, z139⟩, st139⟩ := Jvm.LawKit.callS X137 hx (y := (⟨"com/example/cyclecut/cyclecut/graph/BuilderAddEdgePinLaw", "end", "(JII)I"⟩ : MethodName)) hown (mvT hZ (hw _ (List.mem_of_getElem? (i := 17) rfl))) (mvT hZ (hw _ (List.mem_of_getElem? (i := 18) rfl))) (mvT hZ (hw _ (List.mem_of_getElem? (i := 19) rfl))) (mvT hZ (hw _ (List.mem_of_getElem? (i := 20) rfl))) (by decide) (backOf (W := 2) (rm3 l Z a0 hw [] p2 ((2 : Int32) * v3) v1 T130.heap n0 zp130 n4) hZ (hw _ (List.mem_of_getElem? (i := 20) rfl)) (hw _ (List.mem_of_getElem? (i := 19) rfl)) (by decide) (by decide)) (g := (mkF m 590 #[.val (.int p1), .val (.long p2), .second, .val (.int p3), .val (.int p4), .val (.int v1), .val (.int v2), .val (.int v3), .val (.ref b4), .val (.int (1 : Int32)), .val (.int v127), .val (.ref b130)] [(.int v1), (.int ((2 : Int32) * v3)), (.long p2), (.int r138), (.int (1 : Int32))])) rfl (by rw [hml]; rfl) (argsL := [(.long p2), (.int ((2 : Int32) * v3)), (.int v1)]) (rest := [(.int r138), (.int (1 : Int32))]) (lenOf own_pd6 rfl) rfl (by show 2 * 0 + _ ≤ _; exact Nat.le_of_eq rfl) (hb hby at_590) (fun _ _ => ⟨rfl, e137, (by decide : 0 + 1 + 2 + 0 + 0 + 0 + 0 + 0 + 0 + 0 + 0 + 0 + 0 + 0 + 0 + 0 + 0 + 0 + 0 + 0 + 0 + 0 + 0 + 0 + 0 + 0 + 0 + 0 + 0 + 1 + 0 + 0 + 0 + 0 + 0 + 0 + 0 + 0 + 0 + 0 + 0 + 0 + 0 + 0 + 0 + 0 + 0 + 0 + 0 + 7 + 0 + 0 ≤ _), (by decide : 0 + 4 + 24 + 0 + 0 + 0 + 0 + 0 + 0 + 0 + 0 + 0 + 0 + 0 + 0 + 0 + 0 + 0 + 0 + 0 + 0 + 0 + 0 + 0 + 0 + 0 + 0 + 0 + 0 + 32 + 0 + 0 + 0 + 0 + 0 + 0 + 0 + 0 + 0 + 0 + 0 + 0 + 0 + 0 + 0 + 0 + 0 + 0 + 0 + 150 + 0 + 0 ≤ _)⟩)
  dsimp only [Pt.U, Pt.locs, Pt.cells, Pt.slots] at X139 l139 y139 z139 st139 hQ139
  subst y139 z139
  obtain ⟨rfl, N139q, e139⟩ := hQ139
  have N139 : Fr n0 L139 := by rw [l139]; exact Fr.app N137 N139q
  refine own_go (fun tgt cont => st139 tgt cont) ?_
  show own_Go p e below s (Q0 n0) room_1.cells room_1.slots (T139.setTop (mkF m 593 #[.val (.int p1), .val (.long p2), .second, .val (.int p3), .val (.int p4), .val (.int v1), .val (.int v2), .val (.int v3), .val (.ref b4), .val (.int (1 : Int32)), .val (.int v127), .val (.ref b130)] [(.int (own_end_ p2 ((2 : Int32) * v3) v1)), (.int r138), (.int (1 : Int32))]))
  generalize hr140 : (own_end_ p2 ((2 : Int32) * v3) v1) = r140
  have q2 : r138 = r140 := by
    rw [← hr138, ← hr140, le, ← hr10, ← hr12, ← hr19, ← hr21, ← hr28, ← hr30, ← hr37, ← hr39, ← hr46, ← hr48, ← hr55, ← hr57, ← hr64, ← hr66, ← hr73, ← hr75, ← hr82, ← hr84]
    exact own_fst18 k1
  refine own_go (B := T139.setTop (mkF m 610 #[.val (.int p1), .val (.long p2), .second, .val (.int p3), .val (.int p4), .val (.int v1), .val (.int v2), .val (.int v3), .val (.ref b4), .val (.int (1 : Int32)), .val (.int v127), .val (.ref b130)] [(.int v3), (.ref b130), (.int (1 : Int32))])) (fun tgt cont => ?_) ?_
  · refine XS.icmpNo X139.here hx rfl (hb hby at_593) rfl (XT.ii_ne_f q2) ?_
    refine XT.iconstV X139.here hx rfl (1 : Int32) (hb hby at_596) rfl ?_
    refine XS.goto X139.here hx rfl (pc0 := 597) (pc' := 601) rfl (hb hby at_597) (by decide) (by decide) ?_
    refine XS.iand X139.here hx rfl (hb hby at_601) rfl ?_
    refine XS.istore X139.here hx rfl (hb hby at_602) rfl (l' := #[.val (.int p1), .val (.long p2), .second, .val (.int p3), .val (.int p4), .val (.int v1), .val (.int v2), .val (.int v3), .val (.ref b4), .val (.int (1 : Int32)), .val (.int v127), .val (.ref b130)]) rfl ?_
    refine XS.iload X139.here hx rfl (hb hby at_604) rfl ?_
    refine XS.aload X139.here hx rfl (hb hby at_606) rfl rfl ?_
    refine XS.iload X139.here hx rfl (hb hby at_608) rfl ?_
    exact cont
  -- pc 610: Graph.secondEnd
  obtain ⟨cq141, kq141, qa141, qb141, qc141⟩ := isOf hZ e139 eg130
  obtain ⟨_, _, ⟨T141, L141, k141, n141⟩, -, X141, ⟨Lc141, hQ141, l141, y141, z141⟩, st141⟩ := X139.virtualBack hx (y := (⟨"com/example/cyclecut/cyclecut/graph/Graph", "secondEnd", "(I)I"⟩ : MethodName)) (z := (⟨"com/example/cyclecut/cyclecut/graph/Graph", "secondEnd", "(I)I"⟩ : MethodName)) hown (mvT hZ (hw _ (List.mem_of_getElem? (i := 106) rfl))) (mvT hZ (hw _ (List.mem_of_getElem? (i := 107) rfl))) (notFace_of_selects (args := #[]) (mvT hZ (hw _ (List.mem_of_getElem? (i := 109) rfl)))) (mvT hZ (hw _ (List.mem_of_getElem? (i := 109) rfl))) (mvT hZ (hw _ (List.mem_of_getElem? (i := 108) rfl))) (by decide) (backOf (W := 1) (rm16 l Z a0 hw [] b130 v3 xe130 w133 T130.heap n0 zp130 eg130 fl130_1 al130_0 (own_q1 k1) (own_q2 k1 ll) (own_q3s k1 ll)) hZ (hw _ (List.mem_of_getElem? (i := 110) rfl)) (hw _ (List.mem_of_getElem? (i := 70) rfl)) (by decide) (by decide)) qa141 qc141 (g := (mkF m 610 #[.val (.int p1), .val (.long p2), .second, .val (.int p3), .val (.int p4), .val (.int v1), .val (.int v2), .val (.int v3), .val (.ref b4), .val (.int (1 : Int32)), .val (.int v127), .val (.ref b130)] [(.int v3), (.ref b130), (.int (1 : Int32))])) rfl (by rw [hml]; rfl) (Steps.refl _) (argsL := [(.int v3)]) (rest := [(.int (1 : Int32))]) (lenOf own_pd9 rfl) rfl (by show 2 * 0 + _ ≤ _; exact Nat.le_of_eq rfl) (hb hby at_610) (fun _ _ => ⟨rfl, e139, (by decide : 0 + 1 + 2 + 0 + 0 + 0 + 0 + 0 + 0 + 0 + 0 + 0 + 0 + 0 + 0 + 0 + 0 + 0 + 0 + 0 + 0 + 0 + 0 + 0 + 0 + 0 + 0 + 0 + 0 + 1 + 0 + 0 + 0 + 0 + 0 + 0 + 0 + 0 + 0 + 0 + 0 + 0 + 0 + 0 + 0 + 0 + 0 + 0 + 0 + 7 + 0 + 0 + 0 ≤ _), (by decide : 0 + 4 + 24 + 0 + 0 + 0 + 0 + 0 + 0 + 0 + 0 + 0 + 0 + 0 + 0 + 0 + 0 + 0 + 0 + 0 + 0 + 0 + 0 + 0 + 0 + 0 + 0 + 0 + 0 + 32 + 0 + 0 + 0 + 0 + 0 + 0 + 0 + 0 + 0 + 0 + 0 + 0 + 0 + 0 + 0 + 0 + 0 + 0 + 0 + 150 + 0 + 0 + 0 ≤ _)⟩)
  dsimp only [Pt.U, Pt.locs, Pt.cells, Pt.slots] at X141 l141 y141 z141 st141 hQ141
  subst y141 z141
  obtain ⟨rfl, N141q, e141⟩ := hQ141
  have N141 : Fr n0 L141 := by rw [l141]; exact Fr.app N139 N141q
  refine own_go (fun tgt cont => st141.trans cont) ?_
  show own_Go p e below s (Q0 n0) room_1.cells room_1.slots (T141.setTop (mkF m 613 #[.val (.int p1), .val (.long p2), .second, .val (.int p3), .val (.int p4), .val (.int v1), .val (.int v2), .val (.int v3), .val (.ref b4), .val (.int (1 : Int32)), .val (.int v127), .val (.ref b130)] [(.int (own_gsec_r v3 w133)), (.int (1 : Int32))]))
  generalize hr142 : (own_gsec_r v3 w133) = r142
  refine own_go (B := T141.setTop (mkF m 622 #[.val (.int p1), .val (.long p2), .second, .val (.int p3), .val (.int p4), .val (.int v1), .val (.int v2), .val (.int v3), .val (.ref b4), .val (.int (1 : Int32)), .val (.int v127), .val (.ref b130)] [(.int v1), (.int (((2 : Int32) * v3) + (1 : Int32))), (.long p2), (.int r142), (.int (1 : Int32))])) (fun tgt cont => ?_) ?_
  · refine XS.lloadN X141.here hx rfl (hb hby at_613) rfl ?_
    refine XT.iconstV X141.here hx rfl (2 : Int32) (hb hby at_614) rfl ?_
    refine XS.iload X141.here hx rfl (hb hby at_615) rfl ?_
    refine XS.imul X141.here hx rfl (hb hby at_617) rfl ?_
    refine XT.iconstV X141.here hx rfl (1 : Int32) (hb hby at_618) rfl ?_
    refine XS.iadd X141.here hx rfl (hb hby at_619) rfl ?_
    refine XS.iload X141.here hx rfl (hb hby at_620) rfl ?_
    exact cont
  -- pc 622: BuilderAddEdgePinLaw.end
  obtain ⟨_, _, ⟨T143, L143, k143, n143⟩, -, X143, ⟨Lc143, hQ143, l143, y143, z143⟩, st143⟩ := Jvm.LawKit.callS X141 hx (y := (⟨"com/example/cyclecut/cyclecut/graph/BuilderAddEdgePinLaw", "end", "(JII)I"⟩ : MethodName)) hown (mvT hZ (hw _ (List.mem_of_getElem? (i := 17) rfl))) (mvT hZ (hw _ (List.mem_of_getElem? (i := 18) rfl))) (mvT hZ (hw _ (List.mem_of_getElem? (i := 19) rfl))) (mvT hZ (hw _ (List.mem_of_getElem? (i := 20) rfl))) (by decide) (backOf (W := 2) (rm3 l Z a0 hw [] p2 (((2 : Int32) * v3) + (1 : Int32)) v1 T130.heap n0 zp130 n4) hZ (hw _ (List.mem_of_getElem? (i := 20) rfl)) (hw _ (List.mem_of_getElem? (i := 19) rfl)) (by decide) (by decide)) (g := (mkF m 622 #[.val (.int p1), .val (.long p2), .second, .val (.int p3), .val (.int p4), .val (.int v1), .val (.int v2), .val (.int v3), .val (.ref b4), .val (.int (1 : Int32)), .val (.int v127), .val (.ref b130)] [(.int v1), (.int (((2 : Int32) * v3) + (1 : Int32))), (.long p2), (.int r142), (.int (1 : Int32))])) rfl (by rw [hml]; rfl) (argsL := [(.long p2), (.int (((2 : Int32) * v3) + (1 : Int32))), (.int v1)]) (rest := [(.int r142), (.int (1 : Int32))]) (lenOf own_pd6 rfl) rfl (by show 2 * 0 + _ ≤ _; exact Nat.le_of_eq rfl) (hb hby at_622) (fun _ _ => ⟨rfl, e141, (by decide : 0 + 1 + 2 + 0 + 0 + 0 + 0 + 0 + 0 + 0 + 0 + 0 + 0 + 0 + 0 + 0 + 0 + 0 + 0 + 0 + 0 + 0 + 0 + 0 + 0 + 0 + 0 + 0 + 0 + 1 + 0 + 0 + 0 + 0 + 0 + 0 + 0 + 0 + 0 + 0 + 0 + 0 + 0 + 0 + 0 + 0 + 0 + 0 + 0 + 7 + 0 + 0 + 0 + 0 ≤ _), (by decide : 0 + 4 + 24 + 0 + 0 + 0 + 0 + 0 + 0 + 0 + 0 + 0 + 0 + 0 + 0 + 0 + 0 + 0 + 0 + 0 + 0 + 0 + 0 + 0 + 0 + 0 + 0 + 0 + 0 + 32 + 0 + 0 + 0 + 0 + 0 + 0 + 0 + 0 + 0 + 0 + 0 + 0 + 0 + 0 + 0 + 0 + 0 + 0 + 0 + 150 + 0 + 0 + 0 + 0 ≤ _)⟩)
  dsimp only [Pt.U, Pt.locs, Pt.cells, Pt.slots] at X143 l143 y143 z143 st143 hQ143
  subst y143 z143
  obtain ⟨rfl, N143q, e143⟩ := hQ143
  have N143 : Fr n0 L143 := by rw [l143]; exact Fr.app N141 N143q
  refine own_go (fun tgt cont => st143 tgt cont) ?_
  show own_Go p e below s (Q0 n0) room_1.cells room_1.slots (T143.setTop (mkF m 625 #[.val (.int p1), .val (.long p2), .second, .val (.int p3), .val (.int p4), .val (.int v1), .val (.int v2), .val (.int v3), .val (.ref b4), .val (.int (1 : Int32)), .val (.int v127), .val (.ref b130)] [(.int (own_end_ p2 (((2 : Int32) * v3) + (1 : Int32)) v1)), (.int r142), (.int (1 : Int32))]))
  generalize hr144 : (own_end_ p2 (((2 : Int32) * v3) + (1 : Int32)) v1) = r144
  have q3 : r142 = r144 := by
    rw [← hr142, ← hr144, le, ← hr10, ← hr12, ← hr19, ← hr21, ← hr28, ← hr30, ← hr37, ← hr39, ← hr46, ← hr48, ← hr55, ← hr57, ← hr64, ← hr66, ← hr73, ← hr75, ← hr82, ← hr84]
    exact own_snd18 k1
  refine own_go (B := T143.setTop (mkF m 638 #[.val (.int p1), .val (.long p2), .second, .val (.int p3), .val (.int p4), .val (.int v1), .val (.int v2), .val (.int v3), .val (.ref b4), .val (.int (1 : Int32)), .val (.int v127), .val (.ref b130)] [(.int (1 : Int32))])) (fun tgt cont => ?_) ?_
  · refine XS.icmpNo X143.here hx rfl (hb hby at_625) rfl (XT.ii_ne_f q3) ?_
    refine XT.iconstV X143.here hx rfl (1 : Int32) (hb hby at_628) rfl ?_
    refine XS.goto X143.here hx rfl (pc0 := 629) (pc' := 633) rfl (hb hby at_629) (by decide) (by decide) ?_
    refine XS.iand X143.here hx rfl (hb hby at_633) rfl ?_
    refine XS.istore X143.here hx rfl (hb hby at_634) rfl (l' := #[.val (.int p1), .val (.long p2), .second, .val (.int p3), .val (.int p4), .val (.int v1), .val (.int v2), .val (.int v3), .val (.ref b4), .val (.int (1 : Int32)), .val (.int v127), .val (.ref b130)]) rfl ?_
    refine XS.iload X143.here hx rfl (hb hby at_636) rfl ?_
    exact cont
  refine own_end X143 (v := some (.int (1 : Int32))) (fun h => by rw [Bd.returns] at h; cases h) hlk ?_ (by decide) (by decide) (fun fs hl => retN X143 hx (t := .boolean) Bd.returns (by simp) (hb hby at_638) hl)
  exact ⟨rfl, N143⟩
set_option maxRecDepth 65536 in
set_option maxHeartbeats 40000000 in
theorem comes_1 {Post : Tables → Env → Array Value → State → Outcome → State → Prop} (hpost : ∀ tb e args s v u, (limb_1_1.after args s (.returned v) u = true ∧ limb_1_2.after args s (.returned v) u = true ∧ True) → FrameEnd s (.returned v) u (Jvm.fieldLocs frame_1_writes args s ++ Jvm.arrayLocs frame_1_arrays args s ++ Jvm.staticLocs frame_1_statics s) 32 384 → Post tb e args s (.returned v) u) :
    ArmFor flags0 classFile x code maxLocals ret World_1 tables_1 room_1 Calls_1 rest_1 Pre_1 Post := by
  intro l hfl _ _ p e ha hc hk s m args below hf hA hF happ hP
  obtain ⟨hcalls, hrest, hpre⟩ := hP
  obtain ⟨-, -, -, hnamed, -, -, -, hat⟩ := (Spec.applies_iff hf).mp happ
  obtain ⟨hg, hn⟩ := and_e (Cond.before_iff.mp (show (Jvm.Cond.and given_1 narrow_1).before args s = true from hpre))
  obtain ⟨g0, gr0⟩ := and_e hg
  obtain ⟨ga0, gr1⟩ := and_e gr0
  obtain ⟨ga1, gr2⟩ := and_e gr1
  obtain ⟨ga2, gr3⟩ := and_e gr2
  obtain ⟨w0, w1, w2, w3, rfl⟩ : ∃ w0 w1 w2 w3 : Value, args = #[w0, w1, w2, w3] := by
    have hs : args.size = 4 := by simpa [Cond.value, given_1] using g0
    obtain ⟨L⟩ := args
    match L, hs with
    | [w0, w1, w2, w3], _ => exact ⟨w0, w1, w2, w3, rfl⟩
  have hw := fun d (hd : d ∈ tables_1) => atoms_spec (ws := Jvm.Cond.code x code maxLocals ret :: tables_1) hat d (List.mem_cons_of_mem _ hd)
  obtain ⟨i0, ei0⟩ := is_v ga0
  obtain rfl : w0 = (.int i0) := Option.some.inj ei0
  obtain ⟨i1, ei1⟩ := isL_v ga1
  obtain rfl : w1 = (.long i1) := Option.some.inj ei1
  obtain ⟨i2, ei2⟩ := is_v ga2
  obtain rfl : w2 = (.int i2) := Option.some.inj ei2
  obtain ⟨i3, ei3⟩ := is_v gr3
  obtain rfl : w3 = (.int i3) := Option.some.inj ei3
  obtain ⟨n, o, h1, h2, h3, _, L, rfl, ⟨rfl, N⟩, hq⟩ := rm0 l s _ hw tables_1 i0 i1 i2 i3 s.heap s.heap.size (Nat.le_refl _) p e ha hc hk s m _ below hf ((Spec.applies_iff_loose hf).mp happ).1 ⟨rfl, State.Warmed39.refl s, rfl⟩ trivial
  refine ⟨n, _, h1, h2, h3, hpost _ _ _ _ _ _ ⟨Cond.after_iff.mpr rfl, Cond.after_iff.mpr (eq_i res_at (Term.int_eval (1)) rfl), trivial⟩ ⟨hq.1, hq.2.1, (hq.2.2.sift fun y hy => Or.inr (N y hy)).mono (by decide) (by decide)⟩⟩
theorem main_1_1 : Claimed_1_1 := comes_1 fun _ _ _ _ _ _ h hF => ⟨h.1, hF⟩
theorem main_1_2 : Claimed_1_2 := comes_1 fun _ _ _ _ _ _ h hF => ⟨h.2.1, hF⟩
end Jvm.Pilot.@@N@@
namespace Jvm.Pilot.@@N@@
open Jvm Jvm.ClassFile Sem Op Lib Jvm.Free Jvm.Stand Jvm.Pilot.@@N@@.Jvm.D
/-! MADE BY PROGRAM (witnessworld.py) out of the Statement's table words and the real class files: 15 classes; the members and pool entries that the words name. The judged class is class 1, her method 1. -/
namespace start1
open Jvm.ClassFile
def u (s : String) : CpInfo := .utf8 (stringToUtf16 s)
/-- a pool by its gaps: so many unusable entries, then the entry; so many at the end -/
def gap : Nat → List CpInfo → List CpInfo
  | 0, r => r
  | n + 1, r => .unusable :: gap n r
def poolList (es : List (Nat × CpInfo)) (last : Nat) : List CpInfo := es.foldr (fun e r => gap e.1 (e.2 :: r)) (gap last [])
def pool (es : List (Nat × CpInfo)) (last : Nat) : Array CpInfo := ⟨poolList es last⟩
def fileOf (pool : Array CpInfo) (this : Nat) (attrs : Array Attribute := #[]) (ms : Array MethodInfo := #[]) (fl : Nat := 33) (sup : Nat := 0) (ifs : Array Nat := #[]) (fds : Array FieldInfo := #[]) : ClassFile where
  minorVersion := 0
  majorVersion := 65
  constantPool := pool
  accessFlags := fl
  thisClass := this
  superClass := sup
  interfaces := ifs
  fields := fds
  methods := ms
  attributes := attrs
def plain (name : String) (sup : Option ClassId) : Class where
  name := name
  kind := .ordinary
  loader := none
  accessFlags := 33
  super := sup
  interfaces := #[]
  cf := none
  fields := #[]
  methods := #[]
  instanceTypes := #[]
  staticTypes := #[]
  resolved := #[]
  callSites := []
  init := .initialized
  statics := none
  mirror := none

def pool0 : Array CpInfo := pool [(5, u "<init>"), (0, u "()V"), (1, .class_ 10), (1, u "java/lang/Object"), (85, u "clone"), (0, u "()Ljava/lang/Object;")] 26

def k0c0 : Code := { maxStack := 0, maxLocals := 1, code := object_method_1_code, exceptionTable := #[], attributes := #[] }
def k0m0 : Method := { name := "<init>", desc := "()V", sig := { parameters := [], returnType := none }, accessFlags := 1, code := some k0c0 }
def k0m1 : Method := { name := "clone", desc := "()Ljava/lang/Object;", sig := { parameters := [], returnType := some (.object "java/lang/Object") }, accessFlags := 260, code := none }
/-- java/lang/Object -/
def k0 : Class := { plain "java/lang/Object" none with
  accessFlags := 33
  interfaces := #[]
  cf := some (fileOf pool0 8 #[] #[{ accessFlags := 1, nameIndex := 5, descriptorIndex := 6, attributes := #[] }, { accessFlags := 260, nameIndex := 96, descriptorIndex := 97, attributes := #[] }] 33 0 #[] #[])
  fields := #[]
  methods := #[k0m0, k0m1]
  instanceTypes := #[]
  staticTypes := #[]
  resolved := Array.replicate 124 none
  statics := none }

def pool1 : Array CpInfo := pool [(2, .class_ 4), (1, u "java/lang/Object"), (0, u "<init>"), (0, u "()V"), (0, .integer 2147483647), (0, .class_ 9), (0, u "com/example/cyclecut/cyclecut/graph/Graph$Builder"), (0, .methodref 8 11), (0, .nameAndType 5 12), (0, u "(I)V"), (0, .methodref 14 15), (0, .class_ 16), (0, .nameAndType 17 18), (0, u "com/example/cyclecut/cyclecut/graph/BuilderAddEdgePinLaw"), (0, u "end"), (0, u "(JII)I"), (0, .methodref 8 20), (0, .nameAndType 21 22), (0, u "addEdge"), (0, u "(II)I"), (0, .methodref 14 24), (0, .nameAndType 25 26), (0, u "hit"), (0, u "(JIII)I"), (0, .methodref 8 28), (0, .nameAndType 29 30), (0, u "degree"), (0, u "(I)I"), (0, .methodref 8 32), (0, .nameAndType 33 34), (0, u "build"), (0, u "()Lcom/example/cyclecut/cyclecut/graph/Graph;"), (0, .methodref 36 37), (0, .class_ 38), (0, .nameAndType 39 30), (0, u "com/example/cyclecut/cyclecut/graph/Graph"), (0, u "firstEnd"), (0, .methodref 36 41), (0, .nameAndType 42 30), (0, u "secondEnd"), (0, .long 7), (3, u "law"), (0, u "(IJII)Z")] 5

def k1m0 : Method := { name := "<init>", desc := "()V", sig := { parameters := [], returnType := none }, accessFlags := 2, code := none }
def k1c1 : Code := { maxStack := 7, maxLocals := 12, code := code, exceptionTable := #[], attributes := #[] }
def k1m1 : Method := { name := "law", desc := "(IJII)Z", sig := { parameters := [.int, .long, .int, .int], returnType := some .boolean }, accessFlags := 9, code := some k1c1 }
def k1c2 : Code := { maxStack := 4, maxLocals := 5, code := method_3_code, exceptionTable := #[], attributes := #[] }
def k1m2 : Method := { name := "end", desc := "(JII)I", sig := { parameters := [.long, .int, .int], returnType := some .int }, accessFlags := 10, code := some k1c2 }
def k1c3 : Code := { maxStack := 4, maxLocals := 5, code := method_4_code, exceptionTable := #[], attributes := #[] }
def k1m3 : Method := { name := "hit", desc := "(JIII)I", sig := { parameters := [.long, .int, .int, .int], returnType := some .int }, accessFlags := 10, code := some k1c3 }
/-- com/example/cyclecut/cyclecut/graph/BuilderAddEdgePinLaw -/
def k1 : Class := { plain "com/example/cyclecut/cyclecut/graph/BuilderAddEdgePinLaw" (some 0) with
  accessFlags := 49
  interfaces := #[]
  cf := some (fileOf pool1 14 #[] #[{ accessFlags := 2, nameIndex := 5, descriptorIndex := 6, attributes := #[] }, { accessFlags := 9, nameIndex := 47, descriptorIndex := 48, attributes := #[] }, { accessFlags := 10, nameIndex := 17, descriptorIndex := 18, attributes := #[] }, { accessFlags := 10, nameIndex := 25, descriptorIndex := 26, attributes := #[] }] 49 2 #[] #[])
  fields := #[]
  methods := #[k1m0, k1m1, k1m2, k1m3]
  instanceTypes := #[]
  staticTypes := #[]
  resolved := Array.replicate 54 none
  statics := none }

def pool2 : Array CpInfo := pool [(3, .methodref 4 5), (0, .class_ 6), (0, .nameAndType 7 8), (0, u "java/lang/Object"), (0, u "<init>"), (0, u "()V"), (0, .fieldref 10 11), (0, .class_ 12), (0, .nameAndType 13 14), (0, u "com/example/cyclecut/cyclecut/graph/Graph$Builder"), (0, u "ends"), (0, u "[I"), (9, .fieldref 10 25), (0, .nameAndType 26 27), (0, u "vertexCount"), (0, u "I"), (0, .fieldref 10 29), (0, .nameAndType 30 14), (0, u "degree"), (0, .methodref 32 33), (0, .class_ 34), (0, .nameAndType 35 36), (0, u "java/util/Objects"), (0, u "checkIndex"), (0, u "(II)I"), (0, .fieldref 10 38), (0, .nameAndType 39 27), (0, u "edgeCount"), (0, .integer 1073741819), (5, .long 1073741819), (1, .long 2), (1, .methodref 51 52), (0, .class_ 53), (0, .nameAndType 54 55), (0, u "java/lang/Math"), (0, u "min"), (0, u "(JJ)J"), (0, .methodref 57 58), (0, .class_ 59), (0, .nameAndType 60 61), (0, u "java/util/Arrays"), (0, u "copyOf"), (0, u "([II)[I"), (0, .class_ 63), (0, u "com/example/cyclecut/cyclecut/graph/Graph"), (0, .methodref 65 66), (0, .class_ 14), (0, .nameAndType 67 68), (0, u "clone"), (0, u "()Ljava/lang/Object;"), (0, .methodref 62 70), (0, .nameAndType 7 71), (0, u "(I[I[I)V"), (0, u "MAX_EDGES"), (1, u "(I)V"), (3, u "addEdge"), (0, u "(I)I"), (0, u "build"), (0, u "()Lcom/example/cyclecut/cyclecut/graph/Graph;")] 19

def k2c0 : Code := { maxStack := 3, maxLocals := 2, code := prog_25_method_1_code, exceptionTable := #[], attributes := #[] }
def k2m0 : Method := { name := "<init>", desc := "(I)V", sig := { parameters := [.int], returnType := none }, accessFlags := 1, code := some k2c0 }
def k2c1 : Code := { maxStack := 9, maxLocals := 3, code := prog_25_method_2_code, exceptionTable := #[], attributes := #[] }
def k2m1 : Method := { name := "addEdge", desc := "(II)I", sig := { parameters := [.int, .int], returnType := some .int }, accessFlags := 1, code := some k2c1 }
def k2c2 : Code := { maxStack := 2, maxLocals := 2, code := prog_25_method_3_code, exceptionTable := #[], attributes := #[] }
def k2m2 : Method := { name := "degree", desc := "(I)I", sig := { parameters := [.int], returnType := some .int }, accessFlags := 1, code := some k2c2 }
def k2c3 : Code := { maxStack := 6, maxLocals := 1, code := prog_25_method_4_code, exceptionTable := #[], attributes := #[] }
def k2m3 : Method := { name := "build", desc := "()Lcom/example/cyclecut/cyclecut/graph/Graph;", sig := { parameters := [], returnType := some (.object "com/example/cyclecut/cyclecut/graph/Graph") }, accessFlags := 1, code := some k2c3 }
/-- com/example/cyclecut/cyclecut/graph/Graph$Builder -/
def k2 : Class := { plain "com/example/cyclecut/cyclecut/graph/Graph$Builder" (some 0) with
  accessFlags := 49
  interfaces := #[]
  cf := some (fileOf pool2 10 #[.nestHost 62] #[{ accessFlags := 1, nameIndex := 7, descriptorIndex := 74, attributes := #[] }, { accessFlags := 1, nameIndex := 78, descriptorIndex := 36, attributes := #[] }, { accessFlags := 1, nameIndex := 30, descriptorIndex := 79, attributes := #[] }, { accessFlags := 1, nameIndex := 80, descriptorIndex := 81, attributes := #[] }] 49 4 #[] #[{ accessFlags := 26, nameIndex := 72, descriptorIndex := 27, attributes := #[] }, { accessFlags := 18, nameIndex := 26, descriptorIndex := 27, attributes := #[] }, { accessFlags := 18, nameIndex := 30, descriptorIndex := 14, attributes := #[] }, { accessFlags := 2, nameIndex := 13, descriptorIndex := 14, attributes := #[] }, { accessFlags := 2, nameIndex := 39, descriptorIndex := 27, attributes := #[] }])
  fields := #[{ name := "MAX_EDGES", type := .int, accessFlags := 26, slot := 0, constantValue := 0 }, { name := "vertexCount", type := .int, accessFlags := 18, slot := 0, constantValue := 0 }, { name := "degree", type := (.array .int), accessFlags := 18, slot := 1, constantValue := 0 }, { name := "ends", type := (.array .int), accessFlags := 2, slot := 2, constantValue := 0 }, { name := "edgeCount", type := .int, accessFlags := 2, slot := 3, constantValue := 0 }]
  methods := #[k2m0, k2m1, k2m2, k2m3]
  instanceTypes := #[.int, (.array .int), (.array .int), .int]
  staticTypes := #[.int]
  resolved := Array.replicate 101 none
  statics := none }

def pool3 : Array CpInfo := pool [(2, .class_ 4), (1, u "java/lang/Object"), (0, u "<init>"), (0, u "()V"), (35, .class_ 44), (1, u "java/util/Objects"), (60, .methodref 106 107), (0, .class_ 108), (0, .nameAndType 109 110), (0, u "jdk/internal/util/Preconditions"), (0, u "checkIndex"), (0, u "(IILjava/util/function/BiFunction;)I"), (60, u "(II)I")] 12

def k3m0 : Method := { name := "<init>", desc := "()V", sig := { parameters := [], returnType := none }, accessFlags := 2, code := none }
def k3c1 : Code := { maxStack := 3, maxLocals := 2, code := jdk_31_method_17_code, exceptionTable := #[], attributes := #[] }
def k3m1 : Method := { name := "checkIndex", desc := "(II)I", sig := { parameters := [.int, .int], returnType := some .int }, accessFlags := 9, code := some k3c1 }
/-- java/util/Objects -/
def k3 : Class := { plain "java/util/Objects" (some 0) with
  accessFlags := 49
  interfaces := #[]
  cf := some (fileOf pool3 42 #[] #[{ accessFlags := 2, nameIndex := 5, descriptorIndex := 6, attributes := #[] }, { accessFlags := 9, nameIndex := 109, descriptorIndex := 171, attributes := #[] }] 49 2 #[] #[])
  fields := #[]
  methods := #[k3m0, k3m1]
  instanceTypes := #[]
  staticTypes := #[]
  resolved := Array.replicate 184 none
  statics := none }

def pool4 : Array CpInfo := pool [(2, .class_ 4), (1, u "java/lang/Object"), (0, u "<init>"), (0, u "()V"), (17, .class_ 26), (1, u "jdk/internal/util/Preconditions"), (6, u "checkIndex"), (21, .class_ 56), (0, u "jdk/internal/util/Preconditions$4"), (57, .class_ 115), (0, u "jdk/internal/util/Preconditions$1"), (7, u "SIOOBE_FORMATTER"), (0, u "Ljava/util/function/BiFunction;"), (0, .class_ 126), (0, u "jdk/internal/util/Preconditions$2"), (3, u "AIOOBE_FORMATTER"), (0, .class_ 132), (0, u "jdk/internal/util/Preconditions$3"), (3, u "IOOBE_FORMATTER"), (41, u "(IILjava/util/function/BiFunction;)I")] 15

def k4m0 : Method := { name := "<init>", desc := "()V", sig := { parameters := [], returnType := none }, accessFlags := 1, code := none }
def k4c1 : Code := { maxStack := 3, maxLocals := 3, code := jdk_41_method_11_code, exceptionTable := #[], attributes := #[] }
def k4m1 : Method := { name := "checkIndex", desc := "(IILjava/util/function/BiFunction;)I", sig := { parameters := [.int, .int, (.object "java/util/function/BiFunction")], returnType := some .int }, accessFlags := 9, code := some k4c1 }
/-- jdk/internal/util/Preconditions -/
def k4 : Class := { plain "jdk/internal/util/Preconditions" (some 0) with
  accessFlags := 33
  interfaces := #[]
  cf := some (fileOf pool4 24 #[.nestMembers #[55, 131, 125, 114]] #[{ accessFlags := 1, nameIndex := 5, descriptorIndex := 6, attributes := #[] }, { accessFlags := 9, nameIndex := 33, descriptorIndex := 178, attributes := #[] }] 33 2 #[] #[{ accessFlags := 25, nameIndex := 123, descriptorIndex := 124, attributes := #[] }, { accessFlags := 25, nameIndex := 130, descriptorIndex := 124, attributes := #[] }, { accessFlags := 25, nameIndex := 136, descriptorIndex := 124, attributes := #[] }])
  fields := #[{ name := "SIOOBE_FORMATTER", type := (.object "java/util/function/BiFunction"), accessFlags := 25, slot := 0, constantValue := 0 }, { name := "AIOOBE_FORMATTER", type := (.object "java/util/function/BiFunction"), accessFlags := 25, slot := 1, constantValue := 0 }, { name := "IOOBE_FORMATTER", type := (.object "java/util/function/BiFunction"), accessFlags := 25, slot := 2, constantValue := 0 }]
  methods := #[k4m0, k4m1]
  instanceTypes := #[]
  staticTypes := #[(.object "java/util/function/BiFunction"), (.object "java/util/function/BiFunction"), (.object "java/util/function/BiFunction")]
  resolved := Array.replicate 194 none
  statics := none }

def pool5 : Array CpInfo := pool [(1, .class_ 2), (0, u "java/lang/Math"), (1, .class_ 6), (1, u "java/lang/Object"), (0, u "<init>"), (0, u "()V"), (89, .class_ 100), (1, u "java/lang/Math$RandomNumberGeneratorHolder"), (20, u "(JJ)J"), (50, u "negativeZeroFloatBits"), (0, u "J"), (2, u "negativeZeroDoubleBits"), (24, u "min"), (43, u "$assertionsDisabled"), (0, u "Z"), (88, u "(II)I"), (2, u "twoToTheDoubleScaleDown"), (0, u "D"), (4, u "twoToTheDoubleScaleUp"), (9, u "E"), (3, u "PI"), (2, u "TAU"), (2, u "DEGREES_TO_RADIANS"), (0, u "RADIANS_TO_DEGREES")] 94

def k5m0 : Method := { name := "<init>", desc := "()V", sig := { parameters := [], returnType := none }, accessFlags := 2, code := none }
def k5c1 : Code := { maxStack := 2, maxLocals := 2, code := jdk_29_method_69_code, exceptionTable := #[], attributes := #[] }
def k5m1 : Method := { name := "min", desc := "(II)I", sig := { parameters := [.int, .int], returnType := some .int }, accessFlags := 9, code := some k5c1 }
def k5c2 : Code := { maxStack := 4, maxLocals := 4, code := jdk_29_method_70_code, exceptionTable := #[], attributes := #[] }
def k5m2 : Method := { name := "min", desc := "(JJ)J", sig := { parameters := [.long, .long], returnType := some .long }, accessFlags := 9, code := some k5c2 }
/-- java/lang/Math -/
def k5 : Class := { plain "java/lang/Math" (some 0) with
  accessFlags := 49
  interfaces := #[]
  cf := some (fileOf pool5 1 #[.nestMembers #[98]] #[{ accessFlags := 2, nameIndex := 7, descriptorIndex := 8, attributes := #[] }, { accessFlags := 9, nameIndex := 201, descriptorIndex := 335, attributes := #[] }, { accessFlags := 9, nameIndex := 201, descriptorIndex := 121, attributes := #[] }] 49 4 #[] #[{ accessFlags := 25, nameIndex := 354, descriptorIndex := 339, attributes := #[] }, { accessFlags := 25, nameIndex := 358, descriptorIndex := 339, attributes := #[] }, { accessFlags := 25, nameIndex := 361, descriptorIndex := 339, attributes := #[] }, { accessFlags := 26, nameIndex := 364, descriptorIndex := 339, attributes := #[] }, { accessFlags := 26, nameIndex := 365, descriptorIndex := 339, attributes := #[] }, { accessFlags := 26, nameIndex := 172, descriptorIndex := 173, attributes := #[] }, { accessFlags := 26, nameIndex := 176, descriptorIndex := 173, attributes := #[] }, { accessFlags := 8, nameIndex := 344, descriptorIndex := 339, attributes := #[] }, { accessFlags := 8, nameIndex := 338, descriptorIndex := 339, attributes := #[] }, { accessFlags := 4120, nameIndex := 245, descriptorIndex := 246, attributes := #[] }])
  fields := #[{ name := "E", type := .double, accessFlags := 25, slot := 0, constantValue := 0 }, { name := "PI", type := .double, accessFlags := 25, slot := 1, constantValue := 0 }, { name := "TAU", type := .double, accessFlags := 25, slot := 2, constantValue := 0 }, { name := "DEGREES_TO_RADIANS", type := .double, accessFlags := 26, slot := 3, constantValue := 0 }, { name := "RADIANS_TO_DEGREES", type := .double, accessFlags := 26, slot := 4, constantValue := 0 }, { name := "negativeZeroFloatBits", type := .long, accessFlags := 26, slot := 5, constantValue := 0 }, { name := "negativeZeroDoubleBits", type := .long, accessFlags := 26, slot := 6, constantValue := 0 }, { name := "twoToTheDoubleScaleUp", type := .double, accessFlags := 8, slot := 7, constantValue := 0 }, { name := "twoToTheDoubleScaleDown", type := .double, accessFlags := 8, slot := 8, constantValue := 0 }, { name := "$assertionsDisabled", type := .boolean, accessFlags := 4120, slot := 9, constantValue := 0 }]
  methods := #[k5m0, k5m1, k5m2]
  instanceTypes := #[]
  staticTypes := #[.double, .double, .double, .double, .double, .long, .long, .double, .double, .boolean]
  resolved := Array.replicate 460 none
  statics := none }

def pool6 : Array CpInfo := pool [(2, .class_ 4), (1, u "java/lang/Object"), (0, u "<init>"), (0, u "()V"), (7, .class_ 16), (1, u "java/util/Arrays"), (57, .class_ 76), (1, u "java/util/Arrays$NaturalOrder"), (36, .class_ 115), (1, u "java/util/Arrays$LegacyMergeSort"), (1, u "Z"), (32, .methodref 151 152), (0, .class_ 153), (0, .nameAndType 154 155), (0, u "java/lang/System"), (0, u "arraycopy"), (0, u "(Ljava/lang/Object;ILjava/lang/Object;II)V"), (146, u "copyOf"), (1, .methodref 305 306), (0, .class_ 307), (0, .nameAndType 308 309), (0, u "java/lang/Math"), (0, u "min"), (0, u "(II)I"), (65, .class_ 376), (0, u "java/util/Arrays$ArrayList"), (68, u "$assertionsDisabled"), (269, u "MIN_ARRAY_SORT_GRAN"), (0, u "I"), (2, u "INSERTIONSORT_THRESHOLD"), (151, u "([II)[I"), (103, .class_ 976), (0, u "java/util/Arrays$ArrayItr")] 52

def k6m0 : Method := { name := "<init>", desc := "()V", sig := { parameters := [], returnType := none }, accessFlags := 2, code := none }
def k6c1 : Code := { maxStack := 6, maxLocals := 3, code := jdk_65_method_123_code, exceptionTable := #[], attributes := #[] }
def k6m1 : Method := { name := "copyOf", desc := "([II)[I", sig := { parameters := [(.array .int), .int], returnType := some (.array .int) }, accessFlags := 9, code := some k6c1 }
/-- java/util/Arrays -/
def k6 : Class := { plain "java/util/Arrays" (some 0) with
  accessFlags := 49
  interfaces := #[]
  cf := some (fileOf pool6 14 #[.nestMembers #[975, 375, 113, 74]] #[{ accessFlags := 2, nameIndex := 5, descriptorIndex := 6, attributes := #[] }, { accessFlags := 9, nameIndex := 302, descriptorIndex := 871, attributes := #[] }] 49 2 #[] #[{ accessFlags := 26, nameIndex := 715, descriptorIndex := 716, attributes := #[] }, { accessFlags := 26, nameIndex := 719, descriptorIndex := 716, attributes := #[] }, { accessFlags := 4120, nameIndex := 445, descriptorIndex := 117, attributes := #[] }])
  fields := #[{ name := "MIN_ARRAY_SORT_GRAN", type := .int, accessFlags := 26, slot := 0, constantValue := 0 }, { name := "INSERTIONSORT_THRESHOLD", type := .int, accessFlags := 26, slot := 1, constantValue := 0 }, { name := "$assertionsDisabled", type := .boolean, accessFlags := 4120, slot := 2, constantValue := 0 }]
  methods := #[k6m0, k6m1]
  instanceTypes := #[]
  staticTypes := #[.int, .int, .boolean]
  resolved := Array.replicate 1029 none
  statics := none }

def pool7 : Array CpInfo := pool [(2, .class_ 4), (1, u "java/lang/Object"), (0, u "<init>"), (0, u "()V"), (1, .class_ 10), (1, u "java/lang/System"), (0, u "allowSecurityManager"), (0, u "I"), (16, u "cons"), (0, u "Ljava/io/Console;"), (77, .class_ 110), (1, u "java/lang/System$CallersHolder"), (43, u "initialErrStream"), (0, u "Ljava/io/PrintStream;"), (19, u "security"), (0, u "Ljava/lang/SecurityManager;"), (31, .class_ 209), (0, u "java/lang/System$1"), (7, u "props"), (0, u "Ljava/util/Properties;"), (2, u "lineSeparator"), (0, u "Ljava/lang/String;"), (96, .class_ 321), (1, u "java/lang/System$LoggerFinder"), (5, .class_ 328), (0, u "java/lang/System$Logger"), (67, u "err"), (2, u "out"), (91, u "notSupportedJnuEncoding"), (15, u "in"), (17, u "initialIn"), (0, u "Ljava/io/InputStream;"), (35, u "bootLayer"), (0, u "Ljava/lang/ModuleLayer;"), (99, .class_ 664), (0, u "java/lang/System$2"), (9, u "NEVER"), (2, u "MAYBE"), (49, u "arraycopy"), (0, u "(Ljava/lang/Object;ILjava/lang/Object;II)V"), (72, .class_ 802), (0, u "java/lang/System$Logger$Level")] 31

def k7m0 : Method := { name := "<init>", desc := "()V", sig := { parameters := [], returnType := none }, accessFlags := 2, code := none }
def k7m1 : Method := { name := "arraycopy", desc := "(Ljava/lang/Object;ILjava/lang/Object;II)V", sig := { parameters := [(.object "java/lang/Object"), .int, (.object "java/lang/Object"), .int, .int], returnType := none }, accessFlags := 265, code := none }
/-- java/lang/System -/
def k7 : Class := { plain "java/lang/System" (some 0) with
  accessFlags := 49
  interfaces := #[]
  cf := some (fileOf pool7 8 #[.nestMembers #[319, 327, 801, 108, 663, 208]] #[{ accessFlags := 2, nameIndex := 5, descriptorIndex := 6, attributes := #[] }, { accessFlags := 265, nameIndex := 727, descriptorIndex := 728, attributes := #[] }] 49 2 #[] #[{ accessFlags := 25, nameIndex := 507, descriptorIndex := 526, attributes := #[] }, { accessFlags := 25, nameIndex := 399, descriptorIndex := 155, attributes := #[] }, { accessFlags := 25, nameIndex := 396, descriptorIndex := 155, attributes := #[] }, { accessFlags := 10, nameIndex := 525, descriptorIndex := 526, attributes := #[] }, { accessFlags := 26, nameIndex := 674, descriptorIndex := 12, attributes := #[] }, { accessFlags := 26, nameIndex := 677, descriptorIndex := 12, attributes := #[] }, { accessFlags := 10, nameIndex := 11, descriptorIndex := 12, attributes := #[] }, { accessFlags := 74, nameIndex := 175, descriptorIndex := 176, attributes := #[] }, { accessFlags := 10, nameIndex := 491, descriptorIndex := 222, attributes := #[] }, { accessFlags := 74, nameIndex := 29, descriptorIndex := 30, attributes := #[] }, { accessFlags := 74, nameIndex := 154, descriptorIndex := 155, attributes := #[] }, { accessFlags := 10, nameIndex := 217, descriptorIndex := 218, attributes := #[] }, { accessFlags := 10, nameIndex := 221, descriptorIndex := 222, attributes := #[] }, { accessFlags := 8, nameIndex := 562, descriptorIndex := 563, attributes := #[] }])
  fields := #[{ name := "in", type := (.object "java/io/InputStream"), accessFlags := 25, slot := 0, constantValue := 0 }, { name := "out", type := (.object "java/io/PrintStream"), accessFlags := 25, slot := 1, constantValue := 0 }, { name := "err", type := (.object "java/io/PrintStream"), accessFlags := 25, slot := 2, constantValue := 0 }, { name := "initialIn", type := (.object "java/io/InputStream"), accessFlags := 10, slot := 3, constantValue := 0 }, { name := "NEVER", type := .int, accessFlags := 26, slot := 4, constantValue := 0 }, { name := "MAYBE", type := .int, accessFlags := 26, slot := 5, constantValue := 0 }, { name := "allowSecurityManager", type := .int, accessFlags := 10, slot := 6, constantValue := 0 }, { name := "security", type := (.object "java/lang/SecurityManager"), accessFlags := 74, slot := 7, constantValue := 0 }, { name := "notSupportedJnuEncoding", type := (.object "java/lang/String"), accessFlags := 10, slot := 8, constantValue := 0 }, { name := "cons", type := (.object "java/io/Console"), accessFlags := 74, slot := 9, constantValue := 0 }, { name := "initialErrStream", type := (.object "java/io/PrintStream"), accessFlags := 74, slot := 10, constantValue := 0 }, { name := "props", type := (.object "java/util/Properties"), accessFlags := 10, slot := 11, constantValue := 0 }, { name := "lineSeparator", type := (.object "java/lang/String"), accessFlags := 10, slot := 12, constantValue := 0 }, { name := "bootLayer", type := (.object "java/lang/ModuleLayer"), accessFlags := 8, slot := 13, constantValue := 0 }]
  methods := #[k7m0, k7m1]
  instanceTypes := #[]
  staticTypes := #[(.object "java/io/InputStream"), (.object "java/io/PrintStream"), (.object "java/io/PrintStream"), (.object "java/io/InputStream"), .int, .int, .int, (.object "java/lang/SecurityManager"), (.object "java/lang/String"), (.object "java/io/Console"), (.object "java/io/PrintStream"), (.object "java/util/Properties"), (.object "java/lang/String"), (.object "java/lang/ModuleLayer")]
  resolved := Array.replicate 834 none
  statics := none }

def pool8 : Array CpInfo := pool [(1, .methodref 2 3), (0, .class_ 4), (0, .nameAndType 5 6), (0, u "java/lang/Object"), (0, u "<init>"), (0, u "()V"), (0, .fieldref 8 9), (0, .class_ 10), (0, .nameAndType 11 12), (0, u "com/example/cyclecut/cyclecut/graph/Graph"), (0, u "vertexCount"), (0, u "I"), (0, .fieldref 8 14), (0, .nameAndType 15 16), (0, u "ends"), (0, u "[I"), (0, .fieldref 8 18), (0, .nameAndType 19 16), (0, u "firstSlot"), (0, .fieldref 8 21), (0, .nameAndType 22 16), (0, u "slotNeighbor"), (0, .fieldref 8 24), (0, .nameAndType 25 16), (0, u "slotEdge"), (0, .methodref 27 28), (0, .class_ 29), (0, .nameAndType 30 31), (0, u "java/util/Arrays"), (0, u "copyOf"), (0, u "([II)[I"), (0, .methodref 8 33), (0, .nameAndType 34 35), (0, u "edgeCount"), (0, u "()I"), (0, .methodref 37 38), (0, .class_ 39), (0, .nameAndType 40 41), (0, u "java/util/Objects"), (0, u "checkIndex"), (0, u "(II)I"), (10, u "(I)I"), (6, u "LOOP"), (2, u "(I[I[I)V"), (4, u "firstEnd"), (0, u "secondEnd"), (8, .class_ 78), (0, u "com/example/cyclecut/cyclecut/graph/Graph$Builder")] 2

def k8c0 : Code := { maxStack := 5, maxLocals := 7, code := prog_24_method_1_code, exceptionTable := #[], attributes := #[] }
def k8m0 : Method := { name := "<init>", desc := "(I[I[I)V", sig := { parameters := [.int, (.array .int), (.array .int)], returnType := none }, accessFlags := 2, code := some k8c0 }
def k8c1 : Code := { maxStack := 2, maxLocals := 1, code := prog_24_method_3_code, exceptionTable := #[], attributes := #[] }
def k8m1 : Method := { name := "edgeCount", desc := "()I", sig := { parameters := [], returnType := some .int }, accessFlags := 1, code := some k8c1 }
def k8c2 : Code := { maxStack := 4, maxLocals := 2, code := prog_24_method_4_code, exceptionTable := #[], attributes := #[] }
def k8m2 : Method := { name := "firstEnd", desc := "(I)I", sig := { parameters := [.int], returnType := some .int }, accessFlags := 1, code := some k8c2 }
def k8c3 : Code := { maxStack := 4, maxLocals := 2, code := prog_24_method_5_code, exceptionTable := #[], attributes := #[] }
def k8m3 : Method := { name := "secondEnd", desc := "(I)I", sig := { parameters := [.int], returnType := some .int }, accessFlags := 1, code := some k8c3 }
/-- com/example/cyclecut/cyclecut/graph/Graph -/
def k8 : Class := { plain "com/example/cyclecut/cyclecut/graph/Graph" (some 0) with
  accessFlags := 49
  interfaces := #[]
  cf := some (fileOf pool8 8 #[.nestMembers #[77]] #[{ accessFlags := 2, nameIndex := 5, descriptorIndex := 62, attributes := #[] }, { accessFlags := 1, nameIndex := 34, descriptorIndex := 35, attributes := #[] }, { accessFlags := 1, nameIndex := 67, descriptorIndex := 52, attributes := #[] }, { accessFlags := 1, nameIndex := 68, descriptorIndex := 52, attributes := #[] }] 49 2 #[] #[{ accessFlags := 25, nameIndex := 59, descriptorIndex := 12, attributes := #[] }, { accessFlags := 18, nameIndex := 11, descriptorIndex := 12, attributes := #[] }, { accessFlags := 18, nameIndex := 15, descriptorIndex := 16, attributes := #[] }, { accessFlags := 18, nameIndex := 19, descriptorIndex := 16, attributes := #[] }, { accessFlags := 18, nameIndex := 22, descriptorIndex := 16, attributes := #[] }, { accessFlags := 18, nameIndex := 25, descriptorIndex := 16, attributes := #[] }])
  fields := #[{ name := "LOOP", type := .int, accessFlags := 25, slot := 0, constantValue := 0 }, { name := "vertexCount", type := .int, accessFlags := 18, slot := 0, constantValue := 0 }, { name := "ends", type := (.array .int), accessFlags := 18, slot := 1, constantValue := 0 }, { name := "firstSlot", type := (.array .int), accessFlags := 18, slot := 2, constantValue := 0 }, { name := "slotNeighbor", type := (.array .int), accessFlags := 18, slot := 3, constantValue := 0 }, { name := "slotEdge", type := (.array .int), accessFlags := 18, slot := 4, constantValue := 0 }]
  methods := #[k8m0, k8m1, k8m2, k8m3]
  instanceTypes := #[.int, (.array .int), (.array .int), (.array .int), (.array .int)]
  staticTypes := #[.int]
  resolved := Array.replicate 81 none
  statics := none }

def pool9 : Array CpInfo := pool [(1, .class_ 2), (0, u "java/lang/Cloneable"), (0, .class_ 4), (0, u "java/lang/Object")] 2

/-- java/lang/Cloneable -/
def k9 : Class := { plain "java/lang/Cloneable" (some 0) with
  accessFlags := 1537
  interfaces := #[]
  cf := some (fileOf pool9 1 #[] #[] 1537 3 #[] #[])
  fields := #[]
  methods := #[]
  instanceTypes := #[]
  staticTypes := #[]
  resolved := Array.replicate 7 none
  statics := none }

def pool10 : Array CpInfo := pool [(1, u "java/io/Serializable"), (0, .class_ 1), (0, u "java/lang/Object"), (0, .class_ 3)] 3

/-- java/io/Serializable -/
def k10 : Class := { plain "java/io/Serializable" (some 0) with
  accessFlags := 1537
  interfaces := #[]
  cf := some (fileOf pool10 2 #[] #[] 1537 4 #[] #[])
  fields := #[]
  methods := #[]
  instanceTypes := #[]
  staticTypes := #[]
  resolved := Array.replicate 8 none
  statics := none }

/-- the primitive byte -/
def k11 : Class := { plain "byte" none with kind := .primitive 'B', accessFlags := 0x411 }
/-- [B -/
def k12 : Class := { plain "[B" (some 0) with kind := .array 11 .byte, interfaces := #[9, 10], accessFlags := 1041 }

/-- the primitive int -/
def k13 : Class := { plain "int" none with kind := .primitive 'I', accessFlags := 0x411 }
/-- [I -/
def k14 : Class := { plain "[I" (some 0) with kind := .array 13 .int, interfaces := #[9, 10], accessFlags := 1041 }

def heap : Heap := #[]
def classes : Array Class := #[k0, k1, k2, k3, k4, k5, k6, k7, k8, k9, k10, k11, k12, k13, k14]
def interned : List (Array UInt16 × Addr) := []
def slotsUsed : Nat := 0
def theMethod : MethodId := ⟨1, 1⟩
def args0 : Array Value := #[.int 5, .long 6, .int 7, .int 8]
def aboutOver (below : List Frame) : State where
  vm := { classes := classes, interned := interned.toArray }
  heap := heap
  slotsUsed := slotsUsed
  threads := #[{ frames := .invoking theMethod args0 :: below }]
def below0 : List Frame := [.native { method := ⟨0, 0⟩, args := #[] }]
def about1 : State := aboutOver below0
def p0 : Program := .bare "" "" ""
def e0 : Env := launch0.env 0 0 0
theorem w_frames : about1.frames = Frame.invoking theMethod args0 :: below0 := rfl
set_option maxRecDepth 65536 in
theorem w_args : argsFit about1.vm theMethod args0 = true := by decide +kernel
set_option maxRecDepth 65536 in
theorem w_heap : heapFits about1 = true := by decide +kernel
set_option maxRecDepth 65536 in
theorem w_runnable : about1.curStatus? = some .runnable := by decide +kernel
set_option maxRecDepth 65536 in
theorem w_alone : about1.alone = true := by decide +kernel
set_option maxRecDepth 65536 in
theorem w_named : about1.methodNamed? x = some theMethod := by decide +kernel
set_option maxRecDepth 65536 in
theorem w_hears : about1.hears theMethod below0 = true := by decide +kernel
set_option maxRecDepth 65536 in
theorem w_ripe : about1.ripe theMethod args0 below0 = true := by decide +kernel
theorem w_running : about1.status = .running := rfl
set_option maxRecDepth 65536 in
theorem w_room : about1.hasRoom e0.platform room_1 = true :=
  launch0.hasRoom_least _ room_1 (by decide +kernel) (by decide +kernel) (by decide +kernel) (by decide +kernel) (by decide +kernel) (by decide +kernel)
theorem allAtoms_all (ts : List Jvm.Cond) (a : Array Jvm.Value) (st : Jvm.State) : (allAtoms ts).before a st = ts.all (fun c => c.before a st) := by
  induction ts with
  | nil => rfl
  | cons c t ih =>
    show (Jvm.Cond.and c (allAtoms t)).before a st = _
    rw [Jvm.Cond.before_and, ih, List.all_cons]
def words1 : List Jvm.Cond := Jvm.Cond.code x code maxLocals ret :: tables_1
/-- a 'code' word, met by the world's own term for the bytes: nothing is compared byte by byte -/
theorem code_word {y : MethodName} {bytes : ByteArray} {mx : Nat} {rt : Option FieldType} {a : Array Value} {s : State} {m : MethodId} {meth : Method} {c : Code} (h1 : s.methodNamed? y = some m) (h2 : s.vm.method? m = some meth) (h3 : meth.code = some c) (h4 : c.code = bytes)
    (h5 : (c.maxLocals == mx && c.exceptionTable.isEmpty && decide (c.maxStack ≤ mostOperands) && decide (meth.sig.returnType = rt) && !meth.locks && decide (parseMethodDescriptor y.desc = some meth.sig)) = true) : (Jvm.Cond.code y bytes mx rt).before a s = true := by
  simp only [Bool.and_eq_true, beq_iff_eq, Bool.not_eq_true', decide_eq_true_eq] at h5
  obtain ⟨⟨⟨⟨⟨g1, g2⟩, g3⟩, g4⟩, g5⟩, g6⟩ := h5
  simp [Cond.before, Cond.holds, Cond.value, h1, h2, h3, h4, g1, g2, g3, g4, g5, g6]
def isCode : Jvm.Cond → Bool
  | .code _ _ _ _ => true
  | _ => false
theorem all_split {L : List Jvm.Cond} {P : Jvm.Cond → Bool} (h1 : L.all (fun c => isCode c || P c) = true) (h2 : ∀ c ∈ L.filter isCode, P c = true) : L.all P = true := by
  refine List.all_eq_true.mpr fun c hc => ?_
  have h := List.all_eq_true.mp h1 c hc
  rcases Bool.eq_false_or_eq_true (isCode c) with hi | hi
  · exact h2 c (List.mem_filter.mpr ⟨hc, hi⟩)
  · simpa [hi] using h
set_option maxRecDepth 65536 in
theorem w_c0 : (Jvm.Cond.code x code maxLocals ret).before args0 about1 = true := code_word (m := ⟨1, 1⟩) (meth := k1m1) (c := k1c1) (by decide +kernel) rfl rfl rfl (by decide +kernel)
set_option maxRecDepth 65536 in
theorem w_c1 : (Jvm.Cond.code ({ cls := "com/example/cyclecut/cyclecut/graph/Graph$Builder", name := "<init>", desc := "(I)V" } : Jvm.MethodName) prog_25_method_1_code (2 : Nat) (Option.none : Option Jvm.ClassFile.FieldType)).before args0 about1 = true := code_word (m := ⟨2, 0⟩) (meth := k2m0) (c := k2c0) (by decide +kernel) rfl rfl rfl (by decide +kernel)
set_option maxRecDepth 65536 in
theorem w_c2 : (Jvm.Cond.code ({ cls := "java/lang/Object", name := "<init>", desc := "()V" } : Jvm.MethodName) object_method_1_code (1 : Nat) (Option.none : Option Jvm.ClassFile.FieldType)).before args0 about1 = true := code_word (m := ⟨0, 0⟩) (meth := k0m0) (c := k0c0) (by decide +kernel) rfl rfl rfl (by decide +kernel)
set_option maxRecDepth 65536 in
theorem w_c3 : (Jvm.Cond.code ({ cls := "com/example/cyclecut/cyclecut/graph/BuilderAddEdgePinLaw", name := "end", desc := "(JII)I" } : Jvm.MethodName) method_3_code (5 : Nat) (Option.some Jvm.ClassFile.FieldType.int)).before args0 about1 = true := code_word (m := ⟨1, 2⟩) (meth := k1m2) (c := k1c2) (by decide +kernel) rfl rfl rfl (by decide +kernel)
set_option maxRecDepth 65536 in
theorem w_c4 : (Jvm.Cond.code ({ cls := "com/example/cyclecut/cyclecut/graph/Graph$Builder", name := "addEdge", desc := "(II)I" } : Jvm.MethodName) prog_25_method_2_code (3 : Nat) (Option.some Jvm.ClassFile.FieldType.int)).before args0 about1 = true := code_word (m := ⟨2, 1⟩) (meth := k2m1) (c := k2c1) (by decide +kernel) rfl rfl rfl (by decide +kernel)
set_option maxRecDepth 65536 in
theorem w_c5 : (Jvm.Cond.code ({ cls := "java/util/Objects", name := "checkIndex", desc := "(II)I" } : Jvm.MethodName) jdk_31_method_17_code (2 : Nat) (Option.some Jvm.ClassFile.FieldType.int)).before args0 about1 = true := code_word (m := ⟨3, 1⟩) (meth := k3m1) (c := k3c1) (by decide +kernel) rfl rfl rfl (by decide +kernel)
set_option maxRecDepth 65536 in
theorem w_c6 : (Jvm.Cond.code ({ cls := "jdk/internal/util/Preconditions", name := "checkIndex", desc := "(IILjava/util/function/BiFunction;)I" } : Jvm.MethodName) jdk_41_method_11_code (3 : Nat) (Option.some Jvm.ClassFile.FieldType.int)).before args0 about1 = true := code_word (m := ⟨4, 1⟩) (meth := k4m1) (c := k4c1) (by decide +kernel) rfl rfl rfl (by decide +kernel)
set_option maxRecDepth 65536 in
theorem w_c7 : (Jvm.Cond.code ({ cls := "java/lang/Math", name := "min", desc := "(JJ)J" } : Jvm.MethodName) jdk_29_method_70_code (4 : Nat) (Option.some Jvm.ClassFile.FieldType.long)).before args0 about1 = true := code_word (m := ⟨5, 2⟩) (meth := k5m2) (c := k5c2) (by decide +kernel) rfl rfl rfl (by decide +kernel)
set_option maxRecDepth 65536 in
theorem w_c8 : (Jvm.Cond.code ({ cls := "java/util/Arrays", name := "copyOf", desc := "([II)[I" } : Jvm.MethodName) jdk_65_method_123_code (3 : Nat) (Option.some (Jvm.ClassFile.FieldType.array Jvm.ClassFile.FieldType.int))).before args0 about1 = true := code_word (m := ⟨6, 1⟩) (meth := k6m1) (c := k6c1) (by decide +kernel) rfl rfl rfl (by decide +kernel)
set_option maxRecDepth 65536 in
theorem w_c9 : (Jvm.Cond.code ({ cls := "java/lang/Math", name := "min", desc := "(II)I" } : Jvm.MethodName) jdk_29_method_69_code (2 : Nat) (Option.some Jvm.ClassFile.FieldType.int)).before args0 about1 = true := code_word (m := ⟨5, 1⟩) (meth := k5m1) (c := k5c1) (by decide +kernel) rfl rfl rfl (by decide +kernel)
set_option maxRecDepth 65536 in
theorem w_c10 : (Jvm.Cond.code ({ cls := "com/example/cyclecut/cyclecut/graph/BuilderAddEdgePinLaw", name := "hit", desc := "(JIII)I" } : Jvm.MethodName) method_4_code (5 : Nat) (Option.some Jvm.ClassFile.FieldType.int)).before args0 about1 = true := code_word (m := ⟨1, 3⟩) (meth := k1m3) (c := k1c3) (by decide +kernel) rfl rfl rfl (by decide +kernel)
set_option maxRecDepth 65536 in
theorem w_c11 : (Jvm.Cond.code ({ cls := "com/example/cyclecut/cyclecut/graph/Graph$Builder", name := "degree", desc := "(I)I" } : Jvm.MethodName) prog_25_method_3_code (2 : Nat) (Option.some Jvm.ClassFile.FieldType.int)).before args0 about1 = true := code_word (m := ⟨2, 2⟩) (meth := k2m2) (c := k2c2) (by decide +kernel) rfl rfl rfl (by decide +kernel)
set_option maxRecDepth 65536 in
theorem w_c12 : (Jvm.Cond.code ({ cls := "com/example/cyclecut/cyclecut/graph/Graph$Builder", name := "build", desc := "()Lcom/example/cyclecut/cyclecut/graph/Graph;" } : Jvm.MethodName) prog_25_method_4_code (1 : Nat) (Option.some (Jvm.ClassFile.FieldType.object "com/example/cyclecut/cyclecut/graph/Graph"))).before args0 about1 = true := code_word (m := ⟨2, 3⟩) (meth := k2m3) (c := k2c3) (by decide +kernel) rfl rfl rfl (by decide +kernel)
set_option maxRecDepth 65536 in
theorem w_c13 : (Jvm.Cond.code ({ cls := "com/example/cyclecut/cyclecut/graph/Graph", name := "<init>", desc := "(I[I[I)V" } : Jvm.MethodName) prog_24_method_1_code (7 : Nat) (Option.none : Option Jvm.ClassFile.FieldType)).before args0 about1 = true := code_word (m := ⟨8, 0⟩) (meth := k8m0) (c := k8c0) (by decide +kernel) rfl rfl rfl (by decide +kernel)
set_option maxRecDepth 65536 in
theorem w_c14 : (Jvm.Cond.code ({ cls := "com/example/cyclecut/cyclecut/graph/Graph", name := "firstEnd", desc := "(I)I" } : Jvm.MethodName) prog_24_method_4_code (2 : Nat) (Option.some Jvm.ClassFile.FieldType.int)).before args0 about1 = true := code_word (m := ⟨8, 2⟩) (meth := k8m2) (c := k8c2) (by decide +kernel) rfl rfl rfl (by decide +kernel)
set_option maxRecDepth 65536 in
theorem w_c15 : (Jvm.Cond.code ({ cls := "com/example/cyclecut/cyclecut/graph/Graph", name := "edgeCount", desc := "()I" } : Jvm.MethodName) prog_24_method_3_code (1 : Nat) (Option.some Jvm.ClassFile.FieldType.int)).before args0 about1 = true := code_word (m := ⟨8, 1⟩) (meth := k8m1) (c := k8c1) (by decide +kernel) rfl rfl rfl (by decide +kernel)
set_option maxRecDepth 65536 in
theorem w_c16 : (Jvm.Cond.code ({ cls := "com/example/cyclecut/cyclecut/graph/Graph", name := "secondEnd", desc := "(I)I" } : Jvm.MethodName) prog_24_method_5_code (2 : Nat) (Option.some Jvm.ClassFile.FieldType.int)).before args0 about1 = true := code_word (m := ⟨8, 3⟩) (meth := k8m3) (c := k8c3) (by decide +kernel) rfl rfl rfl (by decide +kernel)
def codes1 : List Jvm.Cond := [Jvm.Cond.code x code maxLocals ret, Jvm.Cond.code ({ cls := "com/example/cyclecut/cyclecut/graph/Graph$Builder", name := "<init>", desc := "(I)V" } : Jvm.MethodName) prog_25_method_1_code (2 : Nat) (Option.none : Option Jvm.ClassFile.FieldType), Jvm.Cond.code ({ cls := "java/lang/Object", name := "<init>", desc := "()V" } : Jvm.MethodName) object_method_1_code (1 : Nat) (Option.none : Option Jvm.ClassFile.FieldType), Jvm.Cond.code ({ cls := "com/example/cyclecut/cyclecut/graph/BuilderAddEdgePinLaw", name := "end", desc := "(JII)I" } : Jvm.MethodName) method_3_code (5 : Nat) (Option.some Jvm.ClassFile.FieldType.int), Jvm.Cond.code ({ cls := "com/example/cyclecut/cyclecut/graph/Graph$Builder", name := "addEdge", desc := "(II)I" } : Jvm.MethodName) prog_25_method_2_code (3 : Nat) (Option.some Jvm.ClassFile.FieldType.int), Jvm.Cond.code ({ cls := "java/util/Objects", name := "checkIndex", desc := "(II)I" } : Jvm.MethodName) jdk_31_method_17_code (2 : Nat) (Option.some Jvm.ClassFile.FieldType.int), Jvm.Cond.code ({ cls := "jdk/internal/util/Preconditions", name := "checkIndex", desc := "(IILjava/util/function/BiFunction;)I" } : Jvm.MethodName) jdk_41_method_11_code (3 : Nat) (Option.some Jvm.ClassFile.FieldType.int), Jvm.Cond.code ({ cls := "java/lang/Math", name := "min", desc := "(JJ)J" } : Jvm.MethodName) jdk_29_method_70_code (4 : Nat) (Option.some Jvm.ClassFile.FieldType.long), Jvm.Cond.code ({ cls := "java/util/Arrays", name := "copyOf", desc := "([II)[I" } : Jvm.MethodName) jdk_65_method_123_code (3 : Nat) (Option.some (Jvm.ClassFile.FieldType.array Jvm.ClassFile.FieldType.int)), Jvm.Cond.code ({ cls := "java/lang/Math", name := "min", desc := "(II)I" } : Jvm.MethodName) jdk_29_method_69_code (2 : Nat) (Option.some Jvm.ClassFile.FieldType.int), Jvm.Cond.code ({ cls := "com/example/cyclecut/cyclecut/graph/BuilderAddEdgePinLaw", name := "hit", desc := "(JIII)I" } : Jvm.MethodName) method_4_code (5 : Nat) (Option.some Jvm.ClassFile.FieldType.int), Jvm.Cond.code ({ cls := "com/example/cyclecut/cyclecut/graph/Graph$Builder", name := "degree", desc := "(I)I" } : Jvm.MethodName) prog_25_method_3_code (2 : Nat) (Option.some Jvm.ClassFile.FieldType.int), Jvm.Cond.code ({ cls := "com/example/cyclecut/cyclecut/graph/Graph$Builder", name := "build", desc := "()Lcom/example/cyclecut/cyclecut/graph/Graph;" } : Jvm.MethodName) prog_25_method_4_code (1 : Nat) (Option.some (Jvm.ClassFile.FieldType.object "com/example/cyclecut/cyclecut/graph/Graph")), Jvm.Cond.code ({ cls := "com/example/cyclecut/cyclecut/graph/Graph", name := "<init>", desc := "(I[I[I)V" } : Jvm.MethodName) prog_24_method_1_code (7 : Nat) (Option.none : Option Jvm.ClassFile.FieldType), Jvm.Cond.code ({ cls := "com/example/cyclecut/cyclecut/graph/Graph", name := "firstEnd", desc := "(I)I" } : Jvm.MethodName) prog_24_method_4_code (2 : Nat) (Option.some Jvm.ClassFile.FieldType.int), Jvm.Cond.code ({ cls := "com/example/cyclecut/cyclecut/graph/Graph", name := "edgeCount", desc := "()I" } : Jvm.MethodName) prog_24_method_3_code (1 : Nat) (Option.some Jvm.ClassFile.FieldType.int), Jvm.Cond.code ({ cls := "com/example/cyclecut/cyclecut/graph/Graph", name := "secondEnd", desc := "(I)I" } : Jvm.MethodName) prog_24_method_5_code (2 : Nat) (Option.some Jvm.ClassFile.FieldType.int)]
set_option maxRecDepth 65536 in
theorem codes_eq : words1.filter isCode = codes1 := rfl
theorem w_codes : ∀ c ∈ words1.filter isCode, c.before args0 about1 = true := by
  rw [codes_eq]
  intro c hc
  simp only [codes1, List.mem_cons, List.not_mem_nil, or_false] at hc
  rcases hc with rfl | rfl | rfl | rfl | rfl | rfl | rfl | rfl | rfl | rfl | rfl | rfl | rfl | rfl | rfl | rfl | rfl
  · exact w_c0
  · exact w_c1
  · exact w_c2
  · exact w_c3
  · exact w_c4
  · exact w_c5
  · exact w_c6
  · exact w_c7
  · exact w_c8
  · exact w_c9
  · exact w_c10
  · exact w_c11
  · exact w_c12
  · exact w_c13
  · exact w_c14
  · exact w_c15
  · exact w_c16
set_option maxRecDepth 65536 in
theorem w_t1 : (words1.take 24).all (fun c => isCode c || c.before args0 about1) = true := by decide +kernel
set_option maxRecDepth 65536 in
theorem w_t2 : ((words1.drop 24).take 24).all (fun c => isCode c || c.before args0 about1) = true := by decide +kernel
set_option maxRecDepth 65536 in
theorem w_t3 : (((words1.drop 24).drop 24).take 24).all (fun c => isCode c || c.before args0 about1) = true := by decide +kernel
set_option maxRecDepth 65536 in
theorem w_t4 : ((((words1.drop 24).drop 24).drop 24).take 24).all (fun c => isCode c || c.before args0 about1) = true := by decide +kernel
set_option maxRecDepth 65536 in
theorem w_t5 : ((((words1.drop 24).drop 24).drop 24).drop 24).all (fun c => isCode c || c.before args0 about1) = true := by decide +kernel
theorem w_tables : (allAtoms (Jvm.Cond.code x code maxLocals ret :: tables_1)).before args0 about1 = true := by
  rw [allAtoms_all]
  show words1.all (fun c => c.before args0 about1) = true
  refine all_split ?_ w_codes
  rw [← List.take_append_drop 24 words1, List.all_append, w_t1, ← List.take_append_drop 24 (words1.drop 24), List.all_append, w_t2, ← List.take_append_drop 24 ((words1.drop 24).drop 24), List.all_append, w_t3, ← List.take_append_drop 24 (((words1.drop 24).drop 24).drop 24), List.all_append, w_t4, w_t5]
  rfl
set_option maxRecDepth 65536 in
theorem w_case : (Jvm.Cond.and given_1 narrow_1).before args0 about1 = true := by decide +kernel
theorem w_applies : (headSpec (Jvm.Cond.code x code maxLocals ret :: tables_1) room_1).applies x e0.platform about1 = true :=
  (Spec.applies_iff w_frames).mpr ⟨w_running, w_runnable, w_alone, w_named, w_hears, w_ripe, w_room, w_tables⟩
theorem atStart : AtStart classFile x code maxLocals ret World_1 tables_1 room_1 Calls_1 rest_1 Pre_1 launch0 p0 e0 about1 theMethod args0 below0 :=
  ⟨lists_1, trivial, launch0.admits_env _ _ _, launch0.least_env, fairChoices_fair.cas, fairChoices_fair.clock, w_frames, w_args, w_heap, w_applies, trivial, trivial, w_case⟩
end start1
theorem witness_1 : WitnessClaimed_1 := ⟨start1.p0, start1.e0, start1.about1, start1.theMethod, start1.args0, start1.below0, start1.atStart⟩
end Jvm.Pilot.@@N@@
