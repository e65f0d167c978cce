import JvmDerived
import JvmDerived.Pilot.@@N@@Statement
import JvmDerived.Pilot.@@N@@Code
set_option linter.unusedVariables false
set_option linter.unusedSimpArgs false
@@BLOCK:NumsL.lean.txt@@
namespace Jvm.RoadKit
open Sem ClassFile Op Lib Jvm.Stand Jvm.Free Jvm.LawKit
section Goes
variable {p : Program} {l : Launch} {e : Env} {R : Room} {s : State} {m : MethodId} {args : Array Value} {below : List Frame} {meth : Method} {c : Code} {T : State} {locs : List Loc} {cells slots : Nat}
/-- from here the run comes to its return, and Q holds there -/
def Goes (p : Program) (e : Env) (below : List Frame) (s : State) (Q : Option Value → Heap → List Loc → Prop) (kc ks : Nat) (S : State) : Prop :=
  ∃ s₂ o, Steps p.tables e below S s₂ ∧ s₂.status = .running ∧ Ended s₂ below o ∧ ∃ v L, o = .returned v ∧ Q v s₂.heap L ∧ FrameEnd s o s₂ L kc ks
variable {Q Q' : Option Value → Heap → List Loc → Prop} {kc ks : Nat} {A B : State}
theorem Goes.go (h : ∀ t, Steps p.tables e below A t → Steps p.tables e below B t) (g : Goes p e below s Q kc ks A) : Goes p e below s Q kc ks B := by
  obtain ⟨s2, o, h1, h2⟩ := g
  exact ⟨s2, o, h _ h1, h2⟩
theorem Goes.tr (h : Steps p.tables e below B A) (g : Goes p e below s Q kc ks A) : Goes p e below s Q kc ks B := g.go fun _ k => h.trans k
theorem Goes.weaken (h : ∀ v hp L, Q' v hp L → Q v hp L) (g : Goes p e below s Q' kc ks A) : Goes p e below s Q kc ks A := by
  obtain ⟨s2, o, h1, h2, h3, v, L, h4, h5, h6⟩ := g
  exact ⟨s2, o, h1, h2, h3, v, L, h4, h _ _ _ h5, h6⟩
theorem Goes.castQ (h : Q = Q') (g : Goes p e below s Q' kc ks A) : Goes p e below s Q kc ks A := h ▸ g
theorem Goes.out (X : Stand p l e R s m args below meth c T locs cells slots) (hlk : meth.locks = false) {v : Option Value} (hv : meth.sig.returnType = none → v = none) {F : State}
    (hstep : ∀ fs, (∀ (f : JFrame) (acts : List Action), f.method = m → f.locked = none → f.entered = [] → (doReturn e (T.setTop f) acts v).1 = T.setFrames fs) → Steps p.tables e below F (T.setFrames fs))
    (hq : Q v T.heap locs) (hc : cells ≤ kc) (hs : slots ≤ ks) : Goes p e below s Q kc ks F := by
  obtain ⟨fs, hr, hrun, hended, hW, hsame⟩ := X.leave (v := v) hv hlk
  exact ⟨_, _, hstep fs hr, hrun, hended, _, _, rfl, hq, ⟨_, rfl⟩, hW, hsame.mono hc hs⟩
theorem retI (X : Stand p l e R s m args below meth c T locs cells slots) (hx : p.tables.exec = Jvm.exec) {pc : Nat} {Ls : Array Slot} {z : Int32} {rest : List Value} (hret : meth.sig.returnType = some .int) (hd : decode c.code pc = .ok (.ireturn, 1)) {fs : List Frame}
    (hl : ∀ (f : JFrame) (acts : List Action), f.method = m → f.locked = none → f.entered = [] → (doReturn e (T.setTop f) acts (some (.int z))).1 = T.setFrames fs) : Steps p.tables e below (T.setTop (mkF m pc Ls (.int z :: rest))) (T.setFrames fs) := by
  have hm' : T.vm.method? m = some meth := X.method'
  have hn : narrow .int (.int z) = .int z := rfl
  show Steps p.tables e below (T.setTop { method := m, pc := pc, locals := Ls, stack := _ :: rest, locked := none }) _
  jvm_step X.here [X.here.top, hx, hd, hm', hret, hn]
  first | (intro acts; rw [hl _ acts rfl rfl rfl]) | rw [hl _ _ rfl rfl rfl]
  exact Steps.refl _
theorem Goes.retI (X : Stand p l e R s m args below meth c T locs cells slots) (hx : p.tables.exec = Jvm.exec) (hlk : meth.locks = false) (hret : meth.sig.returnType = some .int) {pc : Nat} {Ls : Array Slot} {z : Int32} {rest : List Value} (hd : decode c.code pc = .ok (.ireturn, 1))
    (hq : Q (some (.int z)) T.heap locs) (hc : cells ≤ kc) (hs : slots ≤ ks) : Goes p e below s Q kc ks (T.setTop (mkF m pc Ls (.int z :: rest))) :=
  Goes.out X hlk (fun h => by rw [hret] at h; cases h) (fun fs hr => Jvm.RoadKit.retI X hx hret hd hr) hq hc hs
theorem Goes.retN (t : FieldType) (X : Stand p l e R s m args below meth c T locs cells slots) (hx : p.tables.exec = Jvm.exec) (hlk : meth.locks = false) (hret : meth.sig.returnType = some t) (ht : t = .boolean ∨ t = .byte ∨ t = .char ∨ t = .short) {pc : Nat} {Ls : Array Slot} {z : Int32} {rest : List Value} (hd : decode c.code pc = .ok (.ireturn, 1))
    (hq : Q (some (.int (nar t z))) T.heap locs) (hc : cells ≤ kc) (hs : slots ≤ ks) : Goes p e below s Q kc ks (T.setTop (mkF m pc Ls (.int z :: rest))) :=
  Goes.out X hlk (fun h => by rw [hret] at h; cases h) (fun fs hr => Jvm.RoadKit.retN X hx hret ht hd hr) hq hc hs
theorem Goes.ret0 (X : Stand p l e R s m args below meth c T locs cells slots) (hx : p.tables.exec = Jvm.exec) (hlk : meth.locks = false) (hret : meth.sig.returnType = none) {pc : Nat} {Ls : Array Slot} (hd : decode c.code pc = .ok (.return_, 1))
    (hq : Q none T.heap locs) (hc : cells ≤ kc) (hs : slots ≤ ks) : Goes p e below s Q kc ks (T.setTop (mkF m pc Ls [])) :=
  Goes.out X hlk (fun _ => rfl) (fun fs hr => X.returnOut hx hret hd hr) hq hc hs
theorem Goes.retJ (X : Stand p l e R s m args below meth c T locs cells slots) (hx : p.tables.exec = Jvm.exec) (hlk : meth.locks = false) (hret : meth.sig.returnType = some .long) {pc : Nat} {Ls : Array Slot} {z : Int64} (hd : decode c.code pc = .ok (.lreturn, 1))
    (hq : Q (some (.long z)) T.heap locs) (hc : cells ≤ kc) (hs : slots ≤ ks) : Goes p e below s Q kc ks (T.setTop (mkF m pc Ls [.long z])) :=
  Goes.out X hlk (fun h => by rw [hret] at h; cases h) (fun fs hr => X.lreturnOut hx hret hd hr) hq hc hs
theorem Goes.retA (X : Stand p l e R s m args below meth c T locs cells slots) (hx : p.tables.exec = Jvm.exec) (hlk : meth.locks = false) {w : Value} (hw : w.isRef = true) {t : FieldType} (hret : meth.sig.returnType = some t) (ht : t.isReference = true) {pc : Nat} {Ls : Array Slot} (hd : decode c.code pc = .ok (.areturn, 1))
    (hq : Q (some w) T.heap locs) (hc : cells ≤ kc) (hs : slots ≤ ks) : Goes p e below s Q kc ks (T.setTop (mkF m pc Ls [w])) :=
  Goes.out X hlk (fun h => by rw [hret] at h; cases h) (fun fs hr => X.areturnOut hx hw hret ht hd hr) hq hc hs
/-- the answer of a method that writes nothing -/
def Qp (z : Value) (h0 : Heap) (n0 : Nat) (v : Option Value) (h : Heap) (L : List Loc) : Prop := v = some z ∧ Fr n0 L ∧ h = h0
/-- the answer of a method that writes nothing and returns nothing -/
def Qn (h0 : Heap) (n0 : Nat) (v : Option Value) (h : Heap) (L : List Loc) : Prop := v = none ∧ Fr n0 L ∧ h = h0
theorem Goes.qi {z z' : Int32} {h0 : Heap} {n0 : Nat} (h : z = z') (g : Goes p e below s (Qp (.int z') h0 n0) kc ks A) : Goes p e below s (Qp (.int z) h0 n0) kc ks A := h ▸ g
theorem Goes.qj {z z' : Int64} {h0 : Heap} {n0 : Nat} (h : z = z') (g : Goes p e below s (Qp (.long z') h0 n0) kc ks A) : Goes p e below s (Qp (.long z) h0 n0) kc ks A := h ▸ g
end Goes
end Jvm.RoadKit
namespace Jvm.RoadKit
open Sem ClassFile Op Lib Jvm.Stand Jvm.Free Jvm.LawKit
/-- an array of ints (bytes, chars, booleans): its length and what each place holds -/
def IA (Z : State) (h : Heap) (a : Addr) (ty : FieldType) (n : Nat) (f : Nat → Int32) : Prop :=
  ∃ c : Cell, Arr Z h a c ty ∧ c.slots.size = n ∧ n < 2 ^ 31 ∧ ∀ i, i < n → c.slots[i]? = some (.int (f i)) ∧ fits ty (.int (f i)) = true
def own_upd (f : Nat → Int32) (i : Nat) (v : Int32) : Nat → Int32 := fun k => if k = i then v else f k
section IAs
variable {p : Program} {l : Launch} {e : Env} {R : Room} {s : State} {m : MethodId} {args : Array Value} {below : List Frame} {meth : Method} {c : Code} {T : State} {locs : List Loc} {cells slots : Nat} {Z : State} {a0 : Array Value} {h h' : Heap} {a b : Addr} {ty : FieldType} {n : Nat} {f f' : Nat → Int32} {sl : Nat} {v : Value} {ws : List Addr}
theorem IA.lt (F : IA Z h a ty n f) : a < h.size := by obtain ⟨c, A, -⟩ := F; exact A.lt
theorem IA.ext (F : IA Z h a ty n f) (E : Ext h h') : IA Z h' a ty n f := by obtain ⟨c, A, r⟩ := F; exact ⟨c, A.ext E, r⟩
theorem IA.other (F : IA Z h b ty n f) (W : Wr h h' a sl v) (q : b ≠ a) : IA Z h' b ty n f := by obtain ⟨c, A, r⟩ := F; exact ⟨c, A.other W q, r⟩
theorem IA.keep (F : IA Z h a ty n f) (K : Keep h h' ws) (q : a ∉ ws) : IA Z h' a ty n f := by obtain ⟨c, A, r⟩ := F; exact ⟨c, ⟨K.2.1 a c A.1 q, A.2⟩, r⟩
theorem IA.as (F : IA Z h a ty n f) (q : ∀ i, i < n → f i = f' i) : IA Z h a ty n f' := by
  obtain ⟨c, A, S, M, H⟩ := F
  exact ⟨c, A, S, M, fun i hi => by rw [← q i hi]; exact H i hi⟩
theorem IA.bound (F : IA Z h a ty n f) : n < 2 ^ 31 := by obtain ⟨c, A, S, M, H⟩ := F; exact M
theorem own_nat {i : Nat} (hi : i < 2 ^ 31) : (Int32.ofNat i).toInt = i := Int32.toInt_ofNat_of_lt (by omega)
theorem own_cl {i : Nat} (hi : i < 2 ^ 31) : (Int32.ofNat i).toNatClampNeg = i := by
  have := own_nat hi
  show (Int32.ofNat i).toInt.toNat = i
  omega
theorem own_in {i : Nat} (hi : i < n) (hn : n < 2 ^ 31) : ¬ (Int32.ofNat i < 0 ∨ n ≤ (Int32.ofNat i).toNatClampNeg) := by
  rw [own_cl (by omega)]
  rintro (q | q)
  · have := Int32.lt_iff_toInt_lt.mp q
    rw [own_nat (by omega)] at this
    have z : (0 : Int32).toInt = 0 := rfl
    omega
  · omega
theorem IA.set {c : Cell} (A : Arr Z h a c ty) (S : c.slots.size = n) (M : n < 2 ^ 31) (H : ∀ i, i < n → c.slots[i]? = some (.int (f i)) ∧ fits ty (.int (f i)) = true) {i : Nat} (hi : i < n) {x : Int32} (hx : fits ty (.int x) = true) (W : Wr h h' a i (.int x)) : IA Z h' a ty n (own_upd f i x) := by
  refine ⟨c.setSlot i (.int x), A.same W, by rw [sz_set]; exact S, M, fun k hk => ?_⟩
  by_cases q : k = i
  · subst q
    simp only [own_upd, if_pos]
    exact ⟨by simp [Cell.setSlot, S, hk], hx⟩
  · simp only [own_upd, if_neg q]
    refine ⟨?_, (H k hk).2⟩
    rw [← (H k hk).1]
    simp only [Cell.setSlot]
    exact Array.getElem?_setIfInBounds_ne (Ne.symm q)
theorem own_newA (X : Stand p l e R s m args below meth c T locs cells slots) (hx : p.tables.exec = Jvm.exec) (hZ : Z.Warmed39 s.vm) {aty : ArrayType} (w : (Cond.arrayClass (newarray.typeOf aty)).before a0 Z = true) (eT : T.heap = h) {g : JFrame} (hg : g.method = m) (hd : decode c.code g.pc = .ok (.newarray aty, 2)) {z : Int32} {rest : List Value} (hs : g.stack = .int z :: rest)
    {n : Nat} (hz : z = Int32.ofNat n) {cap : Nat} (hcap : n ≤ cap) (hb : cap * 8 ≤ 536870912) (hc : cells + 1 ≤ R.cells) (hl : slots + cap ≤ R.slots) (hdv : defaultValue (newarray.typeOf aty) = .int 0) (hft : fits (newarray.typeOf aty) (.int 0) = true) {ad : String} (had : "[" ++ (newarray.typeOf aty).toString = ad) :
    ∃ T' h', Stand p l e R s m args below meth c T' locs (cells + 1) (slots + cap) ∧ T'.heap = h' ∧ Ext h h' ∧ IA Z h' h.size (newarray.typeOf aty) n (fun _ => 0) ∧ Exa Z h' h.size ad ∧
      ∀ target, Steps p.tables e below (T'.setTop { g with pc := g.pc + 2, stack := .ref h.size :: rest }) target → Steps p.tables e below (T.setTop g) target := by
  have hn31 : n < 2 ^ 31 := by omega
  have hcl : z.toNatClampNeg = n := by rw [hz]; exact own_cl hn31
  have hneg : ¬ z < 0 := by
    rw [hz]; intro q
    have := Int32.lt_iff_toInt_lt.mp q
    rw [own_nat hn31] at this
    have z : (0 : Int32).toInt = 0 := rfl
    omega
  obtain ⟨T', h', cA, X', e', E, A, EX, st⟩ := newPE X hx hZ w eT hg hd hs hneg (cap := cap) (by rw [hcl]; exact hcap) hb hc hl had
  refine ⟨T', h', X', e', E, ⟨_, A, by rw [sz_new]; exact hcl, hn31, fun i hi => ⟨?_, hft⟩⟩, EX, st⟩
  have := get_new (cA := cA) (ty := newarray.typeOf aty) (n := z) (k := Int32.ofNat i) (by rw [hcl]; exact own_in hi hn31)
  rw [own_cl (by omega), hdv] at this
  exact this
theorem own_stI (X : Stand p l e R s m args below meth c T locs cells slots) (hx : p.tables.exec = Jvm.exec) (hZ : Z.Warmed39 s.vm) (eT : T.heap = h) (A : IA Z h a .int n f) {j x : Int32} {i : Nat} (hj : j = Int32.ofNat i) (hi : i < n) {g : JFrame} (hg : g.method = m) {rest : List Value} (hs : g.stack = .int x :: .int j :: .ref a :: rest) (hd : decode c.code g.pc = .ok (.iastore, 1)) :
    ∃ T' h', Stand p l e R s m args below meth c T' (locs ++ [⟨a, i⟩]) cells slots ∧ T'.heap = h' ∧ Wr h h' a i (.int x) ∧ IA Z h' a .int n (own_upd f i x) ∧ ∀ target, Steps p.tables e below (T'.setTop { g with pc := g.pc + 1, stack := rest }) target → Steps p.tables e below (T.setTop g) target := by
  obtain ⟨cl, A, S, M, H⟩ := A
  subst hj
  obtain ⟨T', h', X', e', W, st⟩ := stI X hx hZ eT A (j := Int32.ofNat i) (by rw [S]; exact own_in hi M) hg hs hd
  rw [own_cl (by omega)] at X' W
  exact ⟨T', h', X', e', W, IA.set A S M H hi rfl W, st⟩
theorem own_stB (X : Stand p l e R s m args below meth c T locs cells slots) (hx : p.tables.exec = Jvm.exec) (hZ : Z.Warmed39 s.vm) (eT : T.heap = h) (A : IA Z h a .byte n f) {j x : Int32} {i : Nat} (hj : j = Int32.ofNat i) (hi : i < n) {g : JFrame} (hg : g.method = m) {rest : List Value} (hs : g.stack = .int x :: .int j :: .ref a :: rest) (hd : decode c.code g.pc = .ok (.bastore, 1)) :
    ∃ T' h', Stand p l e R s m args below meth c T' (locs ++ [⟨a, i⟩]) cells slots ∧ T'.heap = h' ∧ Wr h h' a i (.int (nar .byte x)) ∧ IA Z h' a .byte n (own_upd f i (nar .byte x)) ∧ ∀ target, Steps p.tables e below (T'.setTop { g with pc := g.pc + 1, stack := rest }) target → Steps p.tables e below (T.setTop g) target := by
  obtain ⟨cl, A, S, M, H⟩ := A
  subst hj
  obtain ⟨T', h', X', e', W, st⟩ := stB X hx hZ eT A (j := Int32.ofNat i) (by rw [S]; exact own_in hi M) hg hs hd
  rw [own_cl (by omega)] at X' W
  exact ⟨T', h', X', e', W, IA.set A S M H hi (fits_nar_byte _) W, st⟩
theorem own_stC (X : Stand p l e R s m args below meth c T locs cells slots) (hx : p.tables.exec = Jvm.exec) (hZ : Z.Warmed39 s.vm) (eT : T.heap = h) (A : IA Z h a .char n f) {j x : Int32} {i : Nat} (hj : j = Int32.ofNat i) (hi : i < n) {g : JFrame} (hg : g.method = m) {rest : List Value} (hs : g.stack = .int x :: .int j :: .ref a :: rest) (hd : decode c.code g.pc = .ok (.castore, 1)) :
    ∃ T' h', Stand p l e R s m args below meth c T' (locs ++ [⟨a, i⟩]) cells slots ∧ T'.heap = h' ∧ Wr h h' a i (.int (nar .char x)) ∧ IA Z h' a .char n (own_upd f i (nar .char x)) ∧ ∀ target, Steps p.tables e below (T'.setTop { g with pc := g.pc + 1, stack := rest }) target → Steps p.tables e below (T.setTop g) target := by
  obtain ⟨cl, A, S, M, H⟩ := A
  subst hj
  obtain ⟨T', h', X', e', W, st⟩ := stC X hx hZ eT A (j := Int32.ofNat i) (by rw [S]; exact own_in hi M) hg hs hd
  rw [own_cl (by omega)] at X' W
  exact ⟨T', h', X', e', W, IA.set A S M H hi (fits_nar_char _) W, st⟩
theorem own_stZ (X : Stand p l e R s m args below meth c T locs cells slots) (hx : p.tables.exec = Jvm.exec) (hZ : Z.Warmed39 s.vm) (eT : T.heap = h) (A : IA Z h a .boolean n f) {j x : Int32} {i : Nat} (hj : j = Int32.ofNat i) (hi : i < n) {g : JFrame} (hg : g.method = m) {rest : List Value} (hs : g.stack = .int x :: .int j :: .ref a :: rest) (hd : decode c.code g.pc = .ok (.bastore, 1)) :
    ∃ T' h', Stand p l e R s m args below meth c T' (locs ++ [⟨a, i⟩]) cells slots ∧ T'.heap = h' ∧ Wr h h' a i (.int (nar .boolean x)) ∧ IA Z h' a .boolean n (own_upd f i (nar .boolean x)) ∧ ∀ target, Steps p.tables e below (T'.setTop { g with pc := g.pc + 1, stack := rest }) target → Steps p.tables e below (T.setTop g) target := by
  obtain ⟨cl, A, S, M, H⟩ := A
  subst hj
  obtain ⟨T', h', X', e', W, st⟩ := stZ X hx hZ eT A (j := Int32.ofNat i) (by rw [S]; exact own_in hi M) hg hs hd
  rw [own_cl (by omega)] at X' W
  exact ⟨T', h', X', e', W, IA.set A S M H hi (fits_nar_bool _) W, st⟩
theorem own_ldI (X : Stand p l e R s m args below meth c T locs cells slots) (hx : p.tables.exec = Jvm.exec) (hZ : Z.Warmed39 s.vm) (eT : T.heap = h) (A : IA Z h a .int n f) {j : Int32} {i : Nat} (hj : j = Int32.ofNat i) (hi : i < n) {g : JFrame} (hg : g.method = m) {rest : List Value} (hs : g.stack = .int j :: .ref a :: rest) (hd : decode c.code g.pc = .ok (.iaload, 1)) :
    ∀ target, Steps p.tables e below (T.setTop { g with pc := g.pc + 1, stack := .int (f i) :: rest }) target → Steps p.tables e below (T.setTop g) target := by
  obtain ⟨cl, A, S, M, H⟩ := A
  subst hj
  exact X.iaload hx (j := Int32.ofNat i) (v := .int (f i)) (by rw [eT]; exact A.1) (State.isArrayOf_alike hZ.alike A.2.1) A.2.2 (by rw [S]; exact own_in hi M) (by rw [own_cl (by omega)]; exact (H i hi).1) hg hs hd
theorem own_ldB (X : Stand p l e R s m args below meth c T locs cells slots) (hx : p.tables.exec = Jvm.exec) (hZ : Z.Warmed39 s.vm) (eT : T.heap = h) (A : IA Z h a .byte n f) {j : Int32} {i : Nat} (hj : j = Int32.ofNat i) (hi : i < n) {g : JFrame} (hg : g.method = m) {rest : List Value} (hs : g.stack = .int j :: .ref a :: rest) (hd : decode c.code g.pc = .ok (.baload, 1)) :
    ∀ target, Steps p.tables e below (T.setTop { g with pc := g.pc + 1, stack := .int (f i) :: rest }) target → Steps p.tables e below (T.setTop g) target := by
  obtain ⟨cl, A, S, M, H⟩ := A
  subst hj
  exact X.baloadBytes hx (j := Int32.ofNat i) (v := .int (f i)) (by rw [eT]; exact A.1) (State.isArrayOf_alike hZ.alike A.2.1) A.2.2 (by rw [S]; exact own_in hi M) (by rw [own_cl (by omega)]; exact (H i hi).1) hg hs hd
theorem own_ldZ (X : Stand p l e R s m args below meth c T locs cells slots) (hx : p.tables.exec = Jvm.exec) (hZ : Z.Warmed39 s.vm) (eT : T.heap = h) (A : IA Z h a .boolean n f) {j : Int32} {i : Nat} (hj : j = Int32.ofNat i) (hi : i < n) {g : JFrame} (hg : g.method = m) {rest : List Value} (hs : g.stack = .int j :: .ref a :: rest) (hd : decode c.code g.pc = .ok (.baload, 1)) :
    ∀ target, Steps p.tables e below (T.setTop { g with pc := g.pc + 1, stack := .int (f i) :: rest }) target → Steps p.tables e below (T.setTop g) target := by
  obtain ⟨cl, A, S, M, H⟩ := A
  subst hj
  exact X.baloadBooleans hx (j := Int32.ofNat i) (v := .int (f i)) (by rw [eT]; exact A.1) (State.isArrayOf_alike hZ.alike A.2.1) A.2.2 (by rw [S]; exact own_in hi M) (by rw [own_cl (by omega)]; exact (H i hi).1) hg hs hd
theorem own_ldC (X : Stand p l e R s m args below meth c T locs cells slots) (hx : p.tables.exec = Jvm.exec) (hZ : Z.Warmed39 s.vm) (eT : T.heap = h) (A : IA Z h a .char n f) {j : Int32} {i : Nat} (hj : j = Int32.ofNat i) (hi : i < n) {g : JFrame} (hg : g.method = m) {rest : List Value} (hs : g.stack = .int j :: .ref a :: rest) (hd : decode c.code g.pc = .ok (.caload, 1)) :
    ∀ target, Steps p.tables e below (T.setTop { g with pc := g.pc + 1, stack := .int (f i) :: rest }) target → Steps p.tables e below (T.setTop g) target := by
  obtain ⟨cl, A, S, M, H⟩ := A
  subst hj
  exact X.caload hx (j := Int32.ofNat i) (v := .int (f i)) (by rw [eT]; exact A.1) (State.isArrayOf_alike hZ.alike A.2.1) A.2.2 (by rw [S]; exact own_in hi M) (by rw [own_cl (by omega)]; exact (H i hi).1) hg hs hd
theorem own_len (X : Stand p l e R s m args below meth c T locs cells slots) (hx : p.tables.exec = Jvm.exec) (hZ : Z.Warmed39 s.vm) (eT : T.heap = h) (A : IA Z h a ty n f) {g : JFrame} (hg : g.method = m) {rest : List Value} (hs : g.stack = .ref a :: rest) (hd : decode c.code g.pc = .ok (.arraylength, 1)) :
    ∀ target, Steps p.tables e below (T.setTop { g with pc := g.pc + 1, stack := .int (Int32.ofNat n) :: rest }) target → Steps p.tables e below (T.setTop g) target := by
  obtain ⟨cl, A, S, M, H⟩ := A
  subst S
  exact X.arraylength hx (by rw [eT]; exact A.1) (State.isArrayOf_alike hZ.alike A.2.1) hg hs hd
end IAs
end Jvm.RoadKit
namespace Jvm.RoadKit
open Sem ClassFile Op Lib Jvm.Stand Jvm.Free Jvm.LawKit
theorem own_eqNat {x : Int32} {n : Nat} (h : x.toInt = n) : x = Int32.ofNat n := Int32.toInt_inj.mp (by rw [h, own_nat (by have := x.toInt_lt; omega)])
theorem own_andN (x m : Int32) (k : Nat) (hk : k < 32) (hm : m.toBitVec.toNat = 2 ^ k - 1) : ∃ n : Nat, n < 2 ^ k ∧ x &&& m = Int32.ofNat n := by
  have h := Jvm.Kit.i32_mask x m hk hm
  have hpos : (0 : Int) < 2 ^ k := Int.pow_pos (by decide)
  have h1 := Int.emod_nonneg x.toInt (Int.ne_of_gt hpos)
  have h2 := Int.emod_lt_of_pos x.toInt hpos
  refine ⟨(x.toInt % 2 ^ k).toNat, ?_, own_eqNat ?_⟩
  · have e : ((2 ^ k : Nat) : Int) = (2 : Int) ^ k := by rw [Int.natCast_pow]; rfl
    omega
  · rw [h]; omega
theorem own_modN (x : Int32) (d : Nat) (h0 : 0 < d) (hd : d < 2 ^ 31) : ∃ n : Nat, n < d ∧ (x &&& 2147483647) % Int32.ofNat d = Int32.ofNat n := by
  have h := Jvm.Kit.i32_mask x 2147483647 (k := 31) (by decide) (by decide)
  have h1 := Int.emod_nonneg x.toInt (show (2 : Int) ^ 31 ≠ 0 by decide)
  have e := Jvm.Kit.i32_rem_nonneg (x := x &&& 2147483647) (y := Int32.ofNat d) (by rw [h]; exact h1)
  rw [own_nat hd] at e
  have h2 := Int.emod_nonneg (x &&& 2147483647).toInt (show (d : Int) ≠ 0 by omega)
  have h3 := Int.emod_lt_of_pos (x &&& 2147483647).toInt (show (0 : Int) < d by omega)
  exact ⟨((x &&& 2147483647).toInt % d).toNat, by omega, own_eqNat (by rw [e]; omega)⟩
theorem own_lt {i n : Nat} (hi : i < 2 ^ 31) (hn : n < 2 ^ 31) : Int32.ofNat i < Int32.ofNat n ↔ i < n := by
  rw [Int32.lt_iff_toInt_lt, own_nat hi, own_nat hn]; omega
theorem own_inj {i n : Nat} (hi : i < 2 ^ 31) (hn : n < 2 ^ 31) : Int32.ofNat i = Int32.ofNat n ↔ i = n := by
  rw [← Int32.toInt_inj, own_nat hi, own_nat hn]; omega
theorem own_add {i n : Nat} (h : i + n < 2 ^ 31) : Int32.ofNat i + Int32.ofNat n = Int32.ofNat (i + n) :=
  own_eqNat (by rw [Jvm.Kit.i32_add (by rw [own_nat (by omega), own_nat (by omega)]; omega) (by rw [own_nat (by omega), own_nat (by omega)]; omega), own_nat (by omega), own_nat (by omega)]; omega)
end Jvm.RoadKit
namespace Jvm.RoadKit
open Sem ClassFile Op Lib Jvm.Stand Jvm.Free Jvm.LawKit
section Switch
variable {p : Program} {l : Launch} {e : Env} {R : Room} {s : State} {m : MethodId} {args : Array Value} {below : List Frame} {meth : Method} {c : Code} {T : State} {locs : List Loc} {cells slots : Nat}
theorem own_lswH (X : Stand p l e R s m args below meth c T locs cells slots) (hx : p.tables.exec = Jvm.exec) {g : JFrame} (hg : g.method = m) {k : Int32} {rest : List Value} {pc0 pc' : Nat} (hpc : g.pc = pc0)
    (hs : g.stack = .int k :: rest) {dflt : Int} {pairs : Array (Int × Int)} {len : Nat} (hd : decode c.code g.pc = .ok (.lookupswitch dflt pairs, len))
    (hsorted : (pairs.toList.zip (pairs.toList.drop 1)).all (fun (a, next) => a.1 < next.1) = true) {a off : Int} (hfind : pairs.find? (·.1 == k.toInt) = some (a, off)) (ho : 0 ≤ (pc0 : Int) + off) (hp : ((pc0 : Int) + off).toNat = pc')
    (target : State) (hr : Steps p.tables e below (T.setTop { g with pc := pc', stack := rest }) target) : Steps p.tables e below (T.setTop g) target := by
  subst hpc hp
  exact X.lookupswitchHit hx hg hs hd hsorted hfind ho target hr
theorem own_lswM (X : Stand p l e R s m args below meth c T locs cells slots) (hx : p.tables.exec = Jvm.exec) {g : JFrame} (hg : g.method = m) {k : Int32} {rest : List Value} {pc0 pc' : Nat} (hpc : g.pc = pc0)
    (hs : g.stack = .int k :: rest) {dflt : Int} {pairs : Array (Int × Int)} {len : Nat} (hd : decode c.code g.pc = .ok (.lookupswitch dflt pairs, len))
    (hsorted : (pairs.toList.zip (pairs.toList.drop 1)).all (fun (a, next) => a.1 < next.1) = true) (hfind : ∀ q ∈ pairs.toList, q.1 ≠ k.toInt) (ho : 0 ≤ (pc0 : Int) + dflt) (hp : ((pc0 : Int) + dflt).toNat = pc')
    (target : State) (hr : Steps p.tables e below (T.setTop { g with pc := pc', stack := rest }) target) : Steps p.tables e below (T.setTop g) target := by
  subst hpc hp
  exact X.lookupswitchMiss hx hg hs hd hsorted (find_miss hfind) ho target hr
theorem own_nk {x y : Int32} {z : Int} (hz : y.toInt = z) (h : ¬ x = y) : z ≠ x.toInt := fun q => h (Int32.toInt_inj.mp (q.symm.trans hz.symm))
end Switch
end Jvm.RoadKit
namespace Jvm.RoadKit
open Sem ClassFile Op Lib Jvm.Stand Jvm.Free Jvm.LawKit
section Statics
variable {Z : State} {args : Array Value} {C n d K : String} {t : Term} {a : Addr}
theorem own_sta (h : (Cond.exactly (.static C n d) K).value args Z none Z [] = some true) (hi : (Cond.initialized C).before args Z = true) (hl : (Cond.laysStatic C n d).before args Z = true) : ∃ a, (Term.static C n d).eval args Z none [] Z = some (.ref a) ∧ Sta Z Z.heap C n d (.ref a) ∧ Exa Z Z.heap a K := by
  obtain ⟨a, e⟩ := exa_v h
  exact ⟨a, e, Sta.start e (Or.inr ⟨hi, hl⟩), Exa.start e h⟩
theorem own_stfI {k : Int32} (e : t.eval args Z none [] Z = some (.ref a)) (h : (Cond.eq (.field t C n d) (.int k)).value args Z none Z [] = some true) : Fld Z Z.heap a C n d (.int k) := by
  apply Fld.start
  simp only [Cond.value, Term.eval, e, Option.bind_eq_bind, Option.bind_some] at h
  cases hf : Z.fieldOf? a C n d with
  | none => simp [hf] at h
  | some x => cases x <;> simp [hf] at h ⊢; exact h
theorem own_stfJ {k : Int64} (e : t.eval args Z none [] Z = some (.ref a)) (h : (Cond.eq (.field t C n d) (.long k)).value args Z none Z [] = some true) : Fld Z Z.heap a C n d (.long k) := by
  apply Fld.start
  simp only [Cond.value, Term.eval, e, Option.bind_eq_bind, Option.bind_some] at h
  cases hf : Z.fieldOf? a C n d with
  | none => simp [hf] at h
  | some x => cases x <;> simp [hf] at h ⊢; exact h
end Statics
end Jvm.RoadKit
namespace Jvm.RoadKit
open Sem ClassFile Op Lib Jvm.Stand Jvm.Free Jvm.LawKit
theorem own_lrem {tb : Tables} [Ours tb] {e : Env} {below : List Frame} {T target : State} {m : MethodId} {c : Code} {g : JFrame} (h : At T m c below) (hx : tb.exec = Jvm.exec) (hg : g.method = m) {x y : Int64} {rest : List Value} (hd : decode c.code g.pc = .ok (.lrem, 1)) (hs : g.stack = .long y :: .long x :: rest) (hy : y ≠ 0)
    (hr : Steps tb e below (T.setTop { g with pc := g.pc + 1, stack := .long (x % y) :: rest }) target) : Steps tb e below (T.setTop g) target :=
  XS.lrem h hx hg hd hs hy (by rw [lrem_mod]; exact hr)
theorem own_irem_mod (x y : Int32) : x - (x / y) * y = x % y := by
  apply Int32.toInt_inj.mp
  have h1 := Int32.le_toInt (x % y)
  have h2 := Int32.toInt_lt (x % y)
  rw [Int32.toInt_sub, Int32.toInt_mul, Int32.toInt_div, Int.bmod_mul_bmod, Int.sub_bmod_bmod, Int.mul_comm (x.toInt.tdiv y.toInt), ← Int.tmod_def, ← Int32.toInt_mod]
  exact Int.bmod_eq_of_le_mul_two (by omega) (by omega)
theorem own_irem {tb : Tables} [Ours tb] {e : Env} {below : List Frame} {T target : State} {m : MethodId} {c : Code} {g : JFrame} (h : At T m c below) (hx : tb.exec = Jvm.exec) (hg : g.method = m) {x y : Int32} {rest : List Value} (hd : decode c.code g.pc = .ok (.irem, 1)) (hs : g.stack = .int y :: .int x :: rest) (hy : y ≠ 0)
    (hr : Steps tb e below (T.setTop { g with pc := g.pc + 1, stack := .int (x % y) :: rest }) target) : Steps tb e below (T.setTop g) target :=
  XS.irem h hx hg hd hs hy (by rw [own_irem_mod]; exact hr)
theorem own_div1 (x : Int64) : x / 1 = x := Int64.toInt_inj.mp (by
  rw [Jvm.Kit.i64_div (fun q => by have := q.2; revert this; decide)]
  show x.toInt.tdiv 1 = x.toInt
  exact Int.tdiv_one _)
end Jvm.RoadKit
namespace Jvm.RoadKit
open Sem ClassFile Op Lib Jvm.Stand Jvm.Free Jvm.LawKit
theorem own_kx {h h' : Heap} (K : Keep h h' []) : Ext h h' := ⟨K.1, fun a c q => K.2.1 a c q nin0⟩
section Unlike
variable {Z : State} {a0 : Array Value}
theorem own_nsroot {O K : String} {n : Nat} (w : (Cond.noSuperclass O).before a0 Z = true) (wk : (Cond.instantiable K n).before a0 Z = true) (hn : O ≠ K) : NS Z O K := by
  obtain ⟨c, k, h1, h2, h3, -, -⟩ := Cond.noSuperclass_spec w
  obtain ⟨t, k', g1, g2, -⟩ := Cond.instantiable_spec wk
  have ne := ids_ne h1 g1 hn
  refine ⟨c, t, h1, g1, fun fuel => ?_⟩
  cases fuel with
  | zero => rfl
  | succ f => simp [Vm.isSubclassAux, ne, h2, h3]
theorem own_nsno {C S K : String} {n : Nat} (w : (Cond.superclass C S).before a0 Z = true) (wk : (Cond.instantiable K n).before a0 Z = true) (N : NS Z C K) (hn : C ≠ K) : ∃ c t, Z.vm.findClass C = some c ∧ Z.vm.findClass K = some t ∧ Z.vm.assignable c t = false := by
  obtain ⟨c, t, h0, g0, n3⟩ := N
  obtain ⟨p, k, kp, h1, h2, h3, h4, h5, -, h7⟩ := Cond.superclass_spec h0 w
  obtain ⟨t', k', g1, g2, g3, g4, -⟩ := Cond.instantiable_spec wk
  cases g0.symm.trans g1
  have g7 : k'.isInterface = false := by
    cases hq : k'.isInterface with
    | false => rfl
    | true => rw [hq] at g4; simp at g4
  have ne := ids_ne h0 g0 hn
  refine ⟨c, t, h0, g0, ?_⟩
  show Z.vm.assignableAux (255 + 1) c t = false
  simp [Vm.assignableAux, ne, h2, g2, h5, g3, g7, Vm.isSubclass, n3]
end Unlike
end Jvm.RoadKit
namespace Jvm.RoadKit
open Sem ClassFile Op Lib Jvm.Stand Jvm.Free Jvm.LawKit
section Clone
variable {p : Program} {l : Launch} {e : Env} {R : Room} {s : State} {m : MethodId} {args : Array Value} {below : List Frame} {meth : Method} {c : Code} {T : State} {locs : List Loc} {cells slots : Nat} {Z : State} {a0 : Array Value} {h : Heap} {a : Addr} {ty : FieldType} {n : Nat} {f : Nat → Int32}
theorem own_clone (X : Stand p l e R s m args below meth c T locs cells slots) (hx : p.tables.exec = Jvm.exec) (hZ : Z.Warmed39 s.vm) {own ad : String} {index : Nat} (hown : s.vm.findClass own = some m.cls)
    (w1 : (Cond.methodLink own index ⟨ad, "clone", "()Ljava/lang/Object;"⟩).before a0 Z = true) (w2 : (Cond.sameMethod ad "java/lang/Object" "clone" "()Ljava/lang/Object;").before a0 Z = true) (w3 : (Cond.native ⟨"java/lang/Object", "clone", "()Ljava/lang/Object;"⟩).before a0 Z = true)
    (w4 : (Cond.instanceMethod ⟨"java/lang/Object", "clone", "()Ljava/lang/Object;"⟩).before a0 Z = true) (w5 : (Cond.selects ad ⟨ad, "clone", "()Ljava/lang/Object;"⟩ ⟨"java/lang/Object", "clone", "()Ljava/lang/Object;"⟩).before a0 Z = true) (w6 : (Cond.castable ad "java/lang/Cloneable").before a0 Z = true)
    (eT : T.heap = h) (A : IA Z h a ty n f) (E : Exa Z h a ad) {g : JFrame} (hg : g.method = m) (hsize : g.locals.size = c.maxLocals) {rest : List Value} (hs : g.stack = .ref a :: rest) (hd : decode c.code g.pc = .ok (.invokevirtual index, 3))
    (hf : 1 ≤ R.frames) {W cap : Nat} (hW : 2 * g.monitorRoom + (rest.map fun v => v.category).sum ≤ W) (hl : W + 14 ≤ R.locals) (hcap : n ≤ cap) (hc : cells + 1 ≤ R.cells) (hsl : slots + cap ≤ R.slots) :
    ∃ T' h', Stand p l e R s m args below meth c T' locs (cells + 1) (slots + cap) ∧ T'.heap = h' ∧ Ext h h' ∧ IA Z h' h.size ty n f ∧ Exa Z h' h.size ad ∧
      ∀ target, Steps p.tables e below (T'.setTop { g with pc := g.pc + 3, stack := .ref h.size :: rest }) target → Steps p.tables e below (T.setTop g) target := by
  obtain ⟨cl, A, S, M, H⟩ := A
  have FC : FitC Z cl := fitC_of A fun i hi v hv => by
    rw [S] at hi
    rw [(H i hi).1] at hv
    cases hv
    exact (H i hi).2
  obtain ⟨T', h', X', e', ex, A', E', st⟩ := cloneA X hx hZ hown w1 w2 w3 w4 w5 w6 eT A E FC hg hsize hs hd hf hW hl (by rw [S]; exact hcap) hc hsl
  exact ⟨T', h', X', e', ex, ⟨cloneOf cl, A', S, M, H⟩, E', st⟩
end Clone
theorem own_sub {i n : Nat} (h : n ≤ i) (hi : i < 2 ^ 31) : Int32.ofNat i - Int32.ofNat n = Int32.ofNat (i - n) :=
  own_eqNat (by rw [Jvm.Kit.i32_sub (by rw [own_nat (by omega), own_nat (by omega)]; omega) (by rw [own_nat (by omega), own_nat (by omega)]; omega), own_nat (by omega), own_nat (by omega)]; omega)
end Jvm.RoadKit
namespace Jvm.RoadKit
open Sem ClassFile Op Lib Jvm.Stand Jvm.Free Jvm.LawKit
theorem own_stak {Z : State} {h h' : Heap} {C n d D : String} {v : Value} {a : Addr} (F : Sta Z h C n d v) (K : Keep h h' [a]) (E : Exa Z h a D) : Sta Z h' C n d v := by
  obtain ⟨cf, i, k, f, st, cell, h1, h2, h3, h4, h5, h6, h7⟩ := F
  obtain ⟨cell', k', e1, -, -, e4, -⟩ := E
  have ne : st ≠ a := fun q => by
    subst q
    cases h5.symm.trans e1
    rw [e4] at h6
    cases h6
  exact ⟨cf, i, k, f, st, cell, h1, h2, h3, h4, K.2.1 _ _ h5 (ninS ne nin0), h6, h7⟩
end Jvm.RoadKit
namespace Jvm.Pilot.@@N@@
open Jvm Jvm.ClassFile Sem Op Lib Jvm.Free Jvm.Stand Jvm.LawKit Jvm.RoadKit Bundle Jvm.Pilot.@@N@@.Jvm.D
theorem pd_0 : parseMethodDescriptor "(J)J" = some ⟨[.long], some .long⟩ := by decide +kernel
theorem pd_1 : parseMethodDescriptor "(JJ)J" = some ⟨[.long, .long], some .long⟩ := by decide +kernel
theorem pd_2 : parseMethodDescriptor "(JJJ)V" = some ⟨[.long, .long, .long], none⟩ := by decide +kernel
theorem pd_3 : parseMethodDescriptor "()J" = some ⟨[], some .long⟩ := by decide +kernel
theorem own_divN {x y : Int64} (hx : 0 ≤ x.toInt) (hy : 0 < y.toInt) : (x / y).toInt = x.toInt / y.toInt := by
  rw [Jvm.Kit.i64_div (fun q => by omega), Int.tdiv_eq_ediv_of_nonneg hx]
theorem own_modJ {x y : Int64} (hx : 0 ≤ x.toInt) : (x % y).toInt = x.toInt % y.toInt := by
  rw [Int64.toInt_mod, Int.tmod_eq_emod_of_nonneg hx]
theorem own_nz {x : Int64} (h : 0 < x.toInt) : x ≠ 0 := by rintro rfl; revert h; decide
def own_g (x y : Int64) : Int64 := Int64.ofNat (Nat.gcd x.toInt.toNat y.toInt.toNat)
theorem own_natJ {n : Nat} (h : n < 2 ^ 63) : (Int64.ofNat n).toInt = n := Int64.toInt_ofNat_of_lt (by omega)
theorem own_gle {x y : Int64} (hx : 0 < x.toInt) : Nat.gcd x.toInt.toNat y.toInt.toNat < 2 ^ 63 := by
  have h := Nat.le_of_dvd (by omega) (Nat.gcd_dvd_left x.toInt.toNat y.toInt.toNat)
  have := x.toInt_lt
  omega
theorem own_gpos {x y : Int64} (hx : 0 < x.toInt) : 0 < (own_g x y).toInt := by
  have h := Nat.gcd_pos_of_pos_left y.toInt.toNat (show 0 < x.toInt.toNat by omega)
  unfold own_g
  rw [own_natJ (own_gle hx)]
  omega
theorem own_gle1 {x y : Int64} (hx : 0 < x.toInt) : (own_g x y).toInt ≤ x.toInt := by
  have h := Nat.le_of_dvd (by omega) (Nat.gcd_dvd_left x.toInt.toNat y.toInt.toNat)
  unfold own_g
  rw [own_natJ (own_gle hx)]
  omega
theorem own_gle2 {x y : Int64} (hx : 0 < x.toInt) (hy : 0 < y.toInt) : (own_g x y).toInt ≤ y.toInt := by
  have h := Nat.le_of_dvd (by omega) (Nat.gcd_dvd_right x.toInt.toNat y.toInt.toNat)
  unfold own_g
  rw [own_natJ (own_gle hx)]
  omega
theorem own_g0 {x y : Int64} (hx : 0 < x.toInt) (h : y = 0) : own_g x y = x := Int64.toInt_inj.mp (by
  subst h
  unfold own_g
  rw [own_natJ (own_gle hx)]
  show ((Nat.gcd x.toInt.toNat 0 : Nat) : Int) = x.toInt
  rw [Nat.gcd_zero_right]
  omega)
theorem own_gs {x y : Int64} (hx : 0 < x.toInt) (hy : 0 < y.toInt) : own_g y (x % y) = own_g x y := by
  unfold own_g
  have e : (x % y).toInt.toNat = x.toInt.toNat % y.toInt.toNat := by
    rw [own_modJ (by omega)]
    have := Int.toNat_emod (x := x.toInt) (y := y.toInt) (by omega) (by omega)
    exact this
  rw [e, Nat.gcd_comm y.toInt.toNat, ← Nat.gcd_rec, Nat.gcd_comm]
def Two (s t : Slot) : Prop := (s = .unset ∧ t = .unset) ∨ ∃ r : Int64, s = .val (.long r) ∧ t = .second
theorem own_ls8 {q0 q1 x y r : Int64} {s8 s9 : Slot} (h : Two s8 s9) : storeLocals #[.val (.long q0), .second, .val (.long q1), .second, .val (.long x), .second, .val (.long y), .second, s8, s9] 8 (.long r) = some #[.val (.long q0), .second, .val (.long q1), .second, .val (.long x), .second, .val (.long y), .second, .val (.long r), .second] := by
  rcases h with ⟨rfl, rfl⟩ | ⟨z, rfl, rfl⟩ <;> rfl
theorem d3_0 : decode prog_14_method_16_code 0 = .ok (.lload_n 0, 1) := by decide +kernel
theorem d3_1 : decode prog_14_method_16_code 1 = .ok (.lstore 4, 2) := by decide +kernel
theorem d3_3 : decode prog_14_method_16_code 3 = .ok (.lload_n 2, 1) := by decide +kernel
theorem d3_4 : decode prog_14_method_16_code 4 = .ok (.lstore 6, 2) := by decide +kernel
theorem d3_6 : decode prog_14_method_16_code 6 = .ok (.lload 6, 2) := by decide +kernel
theorem d3_8 : decode prog_14_method_16_code 8 = .ok (.lconst 0, 1) := by decide +kernel
theorem d3_9 : decode prog_14_method_16_code 9 = .ok (.lcmp, 1) := by decide +kernel
theorem d3_10 : decode prog_14_method_16_code 10 = .ok (.ifCond .eq 21, 3) := by decide +kernel
theorem d3_13 : decode prog_14_method_16_code 13 = .ok (.lload 4, 2) := by decide +kernel
theorem d3_15 : decode prog_14_method_16_code 15 = .ok (.lload 6, 2) := by decide +kernel
theorem d3_17 : decode prog_14_method_16_code 17 = .ok (.lrem, 1) := by decide +kernel
theorem d3_18 : decode prog_14_method_16_code 18 = .ok (.lstore 8, 2) := by decide +kernel
theorem d3_20 : decode prog_14_method_16_code 20 = .ok (.lload 6, 2) := by decide +kernel
theorem d3_22 : decode prog_14_method_16_code 22 = .ok (.lstore 4, 2) := by decide +kernel
theorem d3_24 : decode prog_14_method_16_code 24 = .ok (.lload 8, 2) := by decide +kernel
theorem d3_26 : decode prog_14_method_16_code 26 = .ok (.lstore 6, 2) := by decide +kernel
theorem d3_28 : decode prog_14_method_16_code 28 = .ok (.goto (-22), 3) := by decide +kernel
theorem d3_31 : decode prog_14_method_16_code 31 = .ok (.lload 4, 2) := by decide +kernel
theorem d3_33 : decode prog_14_method_16_code 33 = .ok (.lreturn, 1) := by decide +kernel
theorem pn_3 : plainName "com/example/danaid/danaid/TokenBucketUnits" = true := by first | (simp [plainName, overriddenIn]; done) | decide +kernel
theorem ef_rm3 (m : MethodId) (x0 : Int64) (x1 : Int64) : entryFrame m #[(.long x0), (.long x1)] 10 = mkF m 0 #[.val (.long x0), .second, .val (.long x1), .second, .unset, .unset, .unset, .unset, .unset, .unset] [] := by first | (simp [entryFrame, mkF, argsToLocals, Value.category]; done) | rfl
set_option maxRecDepth 65536 in
set_option maxHeartbeats 40000000 in
theorem rm3 (l : Launch) (Z : State) (a0 : Array Value) (hw : ∀ d ∈ tables_1, d.before a0 Z = true) (ws : List Jvm.Cond) (q0 : Int64) (q1 : Int64) (h0 : Heap) (n0 : Nat) (Z0 : n0 ≤ h0.size) (hx0 : 0 < q0.toInt) (hy0 : 0 < q1.toInt) :
    MetFree l (⟨"com/example/danaid/danaid/TokenBucketUnits", "greatestCommonDivisor", "(JJ)J"⟩ : MethodName) (head1 (Jvm.Cond.code (⟨"com/example/danaid/danaid/TokenBucketUnits", "greatestCommonDivisor", "(JJ)J"⟩ : MethodName) prog_14_method_16_code 10 (some .long) :: ws) ({ frames := 0, cells := 0, slots := 0, locals := 0 } : Room)) (fun a U => a = #[(.long q0), (.long q1)] ∧ Z.Warmed39 U.vm ∧ U.heap = h0) (fun _ _ _ _ _ => True) (fun _ U o U' => ∃ v L, o = .returned v ∧ Qp (.long (own_g q0 q1)) h0 n0 v U'.heap L ∧ FrameEnd U o U' L ({ frames := 0, cells := 0, slots := 0, locals := 0 } : Room).cells ({ frames := 0, cells := 0, slots := 0, locals := 0 } : Room).slots) := by
  refine MetFree.of_bodySF (plainFor_of_name pn_3) hisR ?_
  intro p e s m args below meth c s₁ Bd hml0 hP hK
  obtain ⟨rfl, hZ, hh⟩ := hP
  have hx := Bd.exec
  have hby := Bd.bytes
  have hml : c.maxLocals = 10 := hml0
  have hown : s.vm.findClass "com/example/danaid/danaid/TokenBucketUnits" = some m.cls := findClass_of_methodNamed Bd.named
  have hnm := (name_of_methodNamed Bd.named Bd.method).1
  have hlk : meth.locks = false := BodyLoose.notSynchronized Bd
  have X0 : Stand p l e ({ frames := 0, cells := 0, slots := 0, locals := 0 } : Room) s m #[(.long q0), (.long q1)] below meth c s₁ [] 0 0 := Stand.of_body Bd
  have e0 : s₁.heap = h0 := by rw [← hh, Bd.state]; rfl
  have N0 := Fr.nil n0
  have K0 : Keep h0 h0 [] := Keep.refl _ _
  show Goes p e below s (Qp (.long (own_g q0 q1)) h0 n0) ({ frames := 0, cells := 0, slots := 0, locals := 0 } : Room).cells ({ frames := 0, cells := 0, slots := 0, locals := 0 } : Room).slots (s₁.setTop (entryFrame m #[(.long q0), (.long q1)] 10))
  rw [ef_rm3]
  have LP : ∀ (k : Nat) (x y : Int64) (s8 s9 : Slot) {TJ : State} {lj : List Loc} (XJ : Stand p l e ({ frames := 0, cells := 0, slots := 0, locals := 0 } : Room) s m #[(.long q0), (.long q1)] below meth c TJ lj 0 0) (eJ : TJ.heap = h0) (NJ : Fr n0 lj) (h8 : Two s8 s9) (hxp : 0 < x.toInt) (hy : 0 ≤ y.toInt) (hk : y.toInt.toNat ≤ k), Goes p e below s (Qp (.long (own_g x y)) h0 n0) ({ frames := 0, cells := 0, slots := 0, locals := 0 } : Room).cells ({ frames := 0, cells := 0, slots := 0, locals := 0 } : Room).slots (TJ.setTop (mkF m 6 #[.val (.long q0), .second, .val (.long q1), .second, .val (.long x), .second, .val (.long y), .second, s8, s9] [])) := by
    intro k
    induction k with
    | zero =>
      intro x y s8 s9 TJ lj XJ eJ NJ h8 hxp hy hk
      have hy0 : y = 0 := Int64.toInt_inj.mp (by show y.toInt = 0; omega)
      show Goes p e below s _ _ _ (TJ.setTop (mkF m 6 #[.val (.long q0), .second, .val (.long q1), .second, .val (.long x), .second, .val (.long y), .second, s8, s9] []))
      refine Goes.go (fun _ k => XS.lload XJ.here hx rfl (hb hby d3_6) rfl  k) ?_
      show Goes p e below s _ _ _ (TJ.setTop (mkF m 8 #[.val (.long q0), .second, .val (.long q1), .second, .val (.long x), .second, .val (.long y), .second, s8, s9] [(.long y)]))
      refine Goes.go (fun _ k => XS.lconst XJ.here hx rfl (hb hby d3_8) k) ?_
      show Goes p e below s _ _ _ (TJ.setTop (mkF m 9 #[.val (.long q0), .second, .val (.long q1), .second, .val (.long x), .second, .val (.long y), .second, s8, s9] [(.long (0 : Int64)), (.long y)]))
      refine Goes.go (fun _ k => XS.lcmp XJ.here hx rfl (hb hby d3_9) rfl k) ?_
      show Goes p e below s _ _ _ (TJ.setTop (mkF m 10 #[.val (.long q0), .second, .val (.long q1), .second, .val (.long x), .second, .val (.long y), .second, s8, s9] [(.int (lcmpW y (0 : Int64)))]))
      have hc10_1 : y = (0 : Int64) := hy0
      refine Goes.go (fun _ k => XS.ifYes XJ.here hx rfl (pc0 := 10) (pc' := 31) rfl (hb hby d3_10) rfl ((if0 _ _).trans (teq ((lw_eq y (0 : Int64)).mpr hc10_1)).1) (by decide) (by decide) k) ?_
      show Goes p e below s _ _ _ (TJ.setTop (mkF m 31 #[.val (.long q0), .second, .val (.long q1), .second, .val (.long x), .second, .val (.long y), .second, s8, s9] []))
      refine Goes.go (fun _ k => XS.lload XJ.here hx rfl (hb hby d3_31) rfl  k) ?_
      show Goes p e below s _ _ _ (TJ.setTop (mkF m 33 #[.val (.long q0), .second, .val (.long q1), .second, .val (.long x), .second, .val (.long y), .second, s8, s9] [(.long x)]))
      refine Goes.retJ XJ hx hlk Bd.returns (hb hby d3_33) ?_ (by decide) (by decide)
      exact ⟨by rw [own_g0 hxp hy0], NJ, eJ⟩
    | succ k ih =>
      intro x y s8 s9 TJ lj XJ eJ NJ h8 hxp hy hk
      show Goes p e below s _ _ _ (TJ.setTop (mkF m 6 #[.val (.long q0), .second, .val (.long q1), .second, .val (.long x), .second, .val (.long y), .second, s8, s9] []))
      refine Goes.go (fun _ k => XS.lload XJ.here hx rfl (hb hby d3_6) rfl  k) ?_
      show Goes p e below s _ _ _ (TJ.setTop (mkF m 8 #[.val (.long q0), .second, .val (.long q1), .second, .val (.long x), .second, .val (.long y), .second, s8, s9] [(.long y)]))
      refine Goes.go (fun _ k => XS.lconst XJ.here hx rfl (hb hby d3_8) k) ?_
      show Goes p e below s _ _ _ (TJ.setTop (mkF m 9 #[.val (.long q0), .second, .val (.long q1), .second, .val (.long x), .second, .val (.long y), .second, s8, s9] [(.long (0 : Int64)), (.long y)]))
      refine Goes.go (fun _ k => XS.lcmp XJ.here hx rfl (hb hby d3_9) rfl k) ?_
      show Goes p e below s _ _ _ (TJ.setTop (mkF m 10 #[.val (.long q0), .second, .val (.long q1), .second, .val (.long x), .second, .val (.long y), .second, s8, s9] [(.int (lcmpW y (0 : Int64)))]))
      by_cases hc10_2 : y = (0 : Int64)
      · skip
        refine Goes.go (fun _ k => XS.ifYes XJ.here hx rfl (pc0 := 10) (pc' := 31) rfl (hb hby d3_10) rfl ((if0 _ _).trans (teq ((lw_eq y (0 : Int64)).mpr hc10_2)).1) (by decide) (by decide) k) ?_
        show Goes p e below s _ _ _ (TJ.setTop (mkF m 31 #[.val (.long q0), .second, .val (.long q1), .second, .val (.long x), .second, .val (.long y), .second, s8, s9] []))
        refine Goes.go (fun _ k => XS.lload XJ.here hx rfl (hb hby d3_31) rfl  k) ?_
        show Goes p e below s _ _ _ (TJ.setTop (mkF m 33 #[.val (.long q0), .second, .val (.long q1), .second, .val (.long x), .second, .val (.long y), .second, s8, s9] [(.long x)]))
        refine Goes.retJ XJ hx hlk Bd.returns (hb hby d3_33) ?_ (by decide) (by decide)
        exact ⟨by rw [own_g0 hxp hc10_2], NJ, eJ⟩
      · skip
        refine Goes.go (fun _ k => XS.ifNo XJ.here hx rfl (hb hby d3_10) rfl ((if0 _ _).trans (feq (mt (lw_eq y (0 : Int64)).mp hc10_2)).1) k) ?_
        show Goes p e below s _ _ _ (TJ.setTop (mkF m 13 #[.val (.long q0), .second, .val (.long q1), .second, .val (.long x), .second, .val (.long y), .second, s8, s9] []))
        refine Goes.go (fun _ k => XS.lload XJ.here hx rfl (hb hby d3_13) rfl  k) ?_
        show Goes p e below s _ _ _ (TJ.setTop (mkF m 15 #[.val (.long q0), .second, .val (.long q1), .second, .val (.long x), .second, .val (.long y), .second, s8, s9] [(.long x)]))
        refine Goes.go (fun _ k => XS.lload XJ.here hx rfl (hb hby d3_15) rfl  k) ?_
        show Goes p e below s _ _ _ (TJ.setTop (mkF m 17 #[.val (.long q0), .second, .val (.long q1), .second, .val (.long x), .second, .val (.long y), .second, s8, s9] [(.long y), (.long x)]))
        refine Goes.go (fun _ k => own_lrem XJ.here hx rfl (hb hby d3_17) rfl hc10_2 k) ?_
        show Goes p e below s _ _ _ (TJ.setTop (mkF m 18 #[.val (.long q0), .second, .val (.long q1), .second, .val (.long x), .second, .val (.long y), .second, s8, s9] [(.long (x % y))]))
        refine Goes.go (fun _ k => XS.lstore XJ.here hx rfl (hb hby d3_18) rfl (l' := #[.val (.long q0), .second, .val (.long q1), .second, .val (.long x), .second, .val (.long y), .second, .val (.long (x % y)), .second]) (own_ls8 h8) k) ?_
        show Goes p e below s _ _ _ (TJ.setTop (mkF m 20 #[.val (.long q0), .second, .val (.long q1), .second, .val (.long x), .second, .val (.long y), .second, .val (.long (x % y)), .second] []))
        refine Goes.go (fun _ k => XS.lload XJ.here hx rfl (hb hby d3_20) rfl  k) ?_
        show Goes p e below s _ _ _ (TJ.setTop (mkF m 22 #[.val (.long q0), .second, .val (.long q1), .second, .val (.long x), .second, .val (.long y), .second, .val (.long (x % y)), .second] [(.long y)]))
        refine Goes.go (fun _ k => XS.lstore XJ.here hx rfl (hb hby d3_22) rfl (l' := #[.val (.long q0), .second, .val (.long q1), .second, .val (.long y), .second, .val (.long y), .second, .val (.long (x % y)), .second]) rfl k) ?_
        show Goes p e below s _ _ _ (TJ.setTop (mkF m 24 #[.val (.long q0), .second, .val (.long q1), .second, .val (.long y), .second, .val (.long y), .second, .val (.long (x % y)), .second] []))
        refine Goes.go (fun _ k => XS.lload XJ.here hx rfl (hb hby d3_24) rfl  k) ?_
        show Goes p e below s _ _ _ (TJ.setTop (mkF m 26 #[.val (.long q0), .second, .val (.long q1), .second, .val (.long y), .second, .val (.long y), .second, .val (.long (x % y)), .second] [(.long (x % y))]))
        refine Goes.go (fun _ k => XS.lstore XJ.here hx rfl (hb hby d3_26) rfl (l' := #[.val (.long q0), .second, .val (.long q1), .second, .val (.long y), .second, .val (.long (x % y)), .second, .val (.long (x % y)), .second]) rfl k) ?_
        show Goes p e below s _ _ _ (TJ.setTop (mkF m 28 #[.val (.long q0), .second, .val (.long q1), .second, .val (.long y), .second, .val (.long (x % y)), .second, .val (.long (x % y)), .second] []))
        refine Goes.go (fun _ k => XS.goto XJ.here hx rfl (pc0 := 28) (pc' := 6) rfl (hb hby d3_28) (by decide) (by decide) k) ?_
        have hyp : 0 < y.toInt := by
          have : y.toInt ≠ 0 := fun q => hc10_2 (Int64.toInt_inj.mp q)
          omega
        have hm : (x % y).toInt = x.toInt % y.toInt := own_modJ (by omega)
        have hm1 := Int.emod_nonneg x.toInt (show y.toInt ≠ 0 by omega)
        have hm2 := Int.emod_lt_of_pos x.toInt hyp
        rw [← own_gs hxp hyp]
        exact ih y (x % y) _ _ XJ eJ NJ (Or.inr ⟨_, rfl, rfl⟩) hyp (by omega) (by omega)
  show Goes p e below s _ _ _ (s₁.setTop (mkF m 0 #[.val (.long q0), .second, .val (.long q1), .second, .unset, .unset, .unset, .unset, .unset, .unset] []))
  refine Goes.go (fun _ k => XS.lloadN X0.here hx rfl (hb hby d3_0) rfl  k) ?_
  show Goes p e below s _ _ _ (s₁.setTop (mkF m 1 #[.val (.long q0), .second, .val (.long q1), .second, .unset, .unset, .unset, .unset, .unset, .unset] [(.long q0)]))
  refine Goes.go (fun _ k => XS.lstore X0.here hx rfl (hb hby d3_1) rfl (l' := #[.val (.long q0), .second, .val (.long q1), .second, .val (.long q0), .second, .unset, .unset, .unset, .unset]) rfl k) ?_
  show Goes p e below s _ _ _ (s₁.setTop (mkF m 3 #[.val (.long q0), .second, .val (.long q1), .second, .val (.long q0), .second, .unset, .unset, .unset, .unset] []))
  refine Goes.go (fun _ k => XS.lloadN X0.here hx rfl (hb hby d3_3) rfl  k) ?_
  show Goes p e below s _ _ _ (s₁.setTop (mkF m 4 #[.val (.long q0), .second, .val (.long q1), .second, .val (.long q0), .second, .unset, .unset, .unset, .unset] [(.long q1)]))
  refine Goes.go (fun _ k => XS.lstore X0.here hx rfl (hb hby d3_4) rfl (l' := #[.val (.long q0), .second, .val (.long q1), .second, .val (.long q0), .second, .val (.long q1), .second, .unset, .unset]) rfl k) ?_
  exact LP q1.toInt.toNat q0 q1 _ _ X0 e0 N0 (Or.inl ⟨rfl, rfl⟩) hx0 (by omega) (Nat.le_refl _)
theorem d9_0 : decode jdk_29_method_66_code 0 = .ok (.lload_n 0, 1) := by decide +kernel
theorem d9_1 : decode jdk_29_method_66_code 1 = .ok (.lload_n 2, 1) := by decide +kernel
theorem d9_2 : decode jdk_29_method_66_code 2 = .ok (.lcmp, 1) := by decide +kernel
theorem d9_3 : decode jdk_29_method_66_code 3 = .ok (.ifCond .lt 7, 3) := by decide +kernel
theorem d9_6 : decode jdk_29_method_66_code 6 = .ok (.lload_n 0, 1) := by decide +kernel
theorem d9_7 : decode jdk_29_method_66_code 7 = .ok (.goto 4, 3) := by decide +kernel
theorem d9_10 : decode jdk_29_method_66_code 10 = .ok (.lload_n 2, 1) := by decide +kernel
theorem d9_11 : decode jdk_29_method_66_code 11 = .ok (.lreturn, 1) := by decide +kernel
theorem ef_rm9 (m : MethodId) (x0 : Int64) (x1 : Int64) : entryFrame m #[(.long x0), (.long x1)] 4 = mkF m 0 #[.val (.long x0), .second, .val (.long x1), .second] [] := by first | (simp [entryFrame, mkF, argsToLocals, Value.category]; done) | rfl
def f9 (q0 : Int64) (q1 : Int64) : Int64 := (if q0 < q1 then q1 else q0)
set_option maxRecDepth 65536 in
set_option maxHeartbeats 40000000 in
theorem rm9 (l : Launch) (Z : State) (a0 : Array Value) (hw : ∀ d ∈ tables_1, d.before a0 Z = true) (ws : List Jvm.Cond) (q0 : Int64) (q1 : Int64) (h0 : Heap) (n0 : Nat) (Z0 : n0 ≤ h0.size) :
    MetFree l (⟨"java/lang/Math", "max", "(JJ)J"⟩ : MethodName) (head1 (Jvm.Cond.code (⟨"java/lang/Math", "max", "(JJ)J"⟩ : MethodName) jdk_29_method_66_code 4 (some .long) :: ws) ({ frames := 0, cells := 0, slots := 0, locals := 0 } : Room)) (fun a U => a = #[(.long q0), (.long q1)] ∧ Z.Warmed39 U.vm ∧ U.heap = h0) (fun _ _ _ _ _ => True) (fun _ U o U' => ∃ v L, o = .returned v ∧ Qp (.long (f9 q0 q1)) h0 n0 v U'.heap L ∧ FrameEnd U o U' L ({ frames := 0, cells := 0, slots := 0, locals := 0 } : Room).cells ({ frames := 0, cells := 0, slots := 0, locals := 0 } : Room).slots) := by
  refine MetFree.of_bodySF (Jvm.Free.JP.mathPlain rfl (by decide +kernel)) hisR ?_
  intro p e s m args below meth c s₁ Bd hml0 hP hK
  obtain ⟨rfl, hZ, hh⟩ := hP
  have hx := Bd.exec
  have hby := Bd.bytes
  have hml : c.maxLocals = 4 := hml0
  have hown : s.vm.findClass "java/lang/Math" = some m.cls := findClass_of_methodNamed Bd.named
  have hnm := (name_of_methodNamed Bd.named Bd.method).1
  have hlk : meth.locks = false := BodyLoose.notSynchronized Bd
  have X0 : Stand p l e ({ frames := 0, cells := 0, slots := 0, locals := 0 } : Room) s m #[(.long q0), (.long q1)] below meth c s₁ [] 0 0 := Stand.of_body Bd
  have e0 : s₁.heap = h0 := by rw [← hh, Bd.state]; rfl
  have N0 := Fr.nil n0
  have K0 : Keep h0 h0 [] := Keep.refl _ _
  show Goes p e below s (Qp (.long (f9 q0 q1)) h0 n0) ({ frames := 0, cells := 0, slots := 0, locals := 0 } : Room).cells ({ frames := 0, cells := 0, slots := 0, locals := 0 } : Room).slots (s₁.setTop (entryFrame m #[(.long q0), (.long q1)] 4))
  rw [ef_rm9]
  show Goes p e below s _ _ _ (s₁.setTop (mkF m 0 #[.val (.long q0), .second, .val (.long q1), .second] []))
  refine Goes.go (fun _ k => XS.lloadN X0.here hx rfl (hb hby d9_0) rfl  k) ?_
  show Goes p e below s _ _ _ (s₁.setTop (mkF m 1 #[.val (.long q0), .second, .val (.long q1), .second] [(.long q0)]))
  refine Goes.go (fun _ k => XS.lloadN X0.here hx rfl (hb hby d9_1) rfl  k) ?_
  show Goes p e below s _ _ _ (s₁.setTop (mkF m 2 #[.val (.long q0), .second, .val (.long q1), .second] [(.long q1), (.long q0)]))
  refine Goes.go (fun _ k => XS.lcmp X0.here hx rfl (hb hby d9_2) rfl k) ?_
  show Goes p e below s _ _ _ (s₁.setTop (mkF m 3 #[.val (.long q0), .second, .val (.long q1), .second] [(.int (lcmpW q0 q1))]))
  obtain ⟨z1_s0, hz1_s0⟩ : ∃ z : Int64, z = if q0 < q1 then q1 else q0 := ⟨_, rfl⟩
  have sm1 : ∀ t, Steps p.tables e below (s₁.setTop (mkF m 11 #[.val (.long q0), .second, .val (.long q1), .second] [(.long z1_s0)])) t → Steps p.tables e below (s₁.setTop (mkF m 3 #[.val (.long q0), .second, .val (.long q1), .second] [(.int (lcmpW q0 q1))])) t := by
    intro t k
    by_cases hc3_1 : q0 < q1
    · have k2 : Steps p.tables e below (s₁.setTop (mkF m 11 #[.val (.long q0), .second, .val (.long q1), .second] [(.long q1)])) t := by simpa only [hz1_s0, if_pos hc3_1] using k
      show Steps p.tables e below (s₁.setTop (mkF m 3 #[.val (.long q0), .second, .val (.long q1), .second] [(.int (lcmpW q0 q1))])) _
      refine XS.ifYes X0.here hx rfl (pc0 := 3) (pc' := 10) rfl (hb hby d9_3) rfl ((if0 _ _).trans (tlt ((lw_lt q0 q1).mpr hc3_1)).1) (by decide) (by decide) ?_
      show Steps p.tables e below (s₁.setTop (mkF m 10 #[.val (.long q0), .second, .val (.long q1), .second] [])) _
      refine XS.lloadN X0.here hx rfl (hb hby d9_10) rfl  ?_
      exact k2
    · have k2 : Steps p.tables e below (s₁.setTop (mkF m 11 #[.val (.long q0), .second, .val (.long q1), .second] [(.long q0)])) t := by simpa only [hz1_s0, if_neg hc3_1] using k
      show Steps p.tables e below (s₁.setTop (mkF m 3 #[.val (.long q0), .second, .val (.long q1), .second] [(.int (lcmpW q0 q1))])) _
      refine XS.ifNo X0.here hx rfl (hb hby d9_3) rfl ((if0 _ _).trans (flt (mt (lw_lt q0 q1).mp hc3_1)).1) ?_
      show Steps p.tables e below (s₁.setTop (mkF m 6 #[.val (.long q0), .second, .val (.long q1), .second] [])) _
      refine XS.lloadN X0.here hx rfl (hb hby d9_6) rfl  ?_
      show Steps p.tables e below (s₁.setTop (mkF m 7 #[.val (.long q0), .second, .val (.long q1), .second] [(.long q0)])) _
      refine XS.goto X0.here hx rfl (pc0 := 7) (pc' := 11) rfl (hb hby d9_7) (by decide) (by decide) ?_
      exact k2
  refine Goes.go sm1 ?_
  show Goes p e below s _ _ _ (s₁.setTop (mkF m 11 #[.val (.long q0), .second, .val (.long q1), .second] [(.long z1_s0)]))
  refine Goes.retJ X0 hx hlk Bd.returns (hb hby d9_11) ?_ (by decide) (by decide)
  exact ⟨by subst hz1_s0; rfl, N0, e0⟩
theorem d5_0 : decode jdk_29_method_61_code 0 = .ok (.lload_n 0, 1) := by decide +kernel
theorem d5_1 : decode jdk_29_method_61_code 1 = .ok (.lconst 0, 1) := by decide +kernel
theorem d5_2 : decode jdk_29_method_61_code 2 = .ok (.lcmp, 1) := by decide +kernel
theorem d5_3 : decode jdk_29_method_61_code 3 = .ok (.ifCond .ge 8, 3) := by decide +kernel
theorem d5_6 : decode jdk_29_method_61_code 6 = .ok (.lload_n 0, 1) := by decide +kernel
theorem d5_7 : decode jdk_29_method_61_code 7 = .ok (.lneg, 1) := by decide +kernel
theorem d5_8 : decode jdk_29_method_61_code 8 = .ok (.goto 4, 3) := by decide +kernel
theorem d5_11 : decode jdk_29_method_61_code 11 = .ok (.lload_n 0, 1) := by decide +kernel
theorem d5_12 : decode jdk_29_method_61_code 12 = .ok (.lreturn, 1) := by decide +kernel
theorem ef_rm5 (m : MethodId) (x0 : Int64) : entryFrame m #[(.long x0)] 2 = mkF m 0 #[.val (.long x0), .second] [] := by first | (simp [entryFrame, mkF, argsToLocals, Value.category]; done) | rfl
def f5 (q0 : Int64) : Int64 := (if q0 < (0 : Int64) then (-q0) else q0)
set_option maxRecDepth 65536 in
set_option maxHeartbeats 40000000 in
theorem rm5 (l : Launch) (Z : State) (a0 : Array Value) (hw : ∀ d ∈ tables_1, d.before a0 Z = true) (ws : List Jvm.Cond) (q0 : Int64) (h0 : Heap) (n0 : Nat) (Z0 : n0 ≤ h0.size) :
    MetFree l (⟨"java/lang/Math", "abs", "(J)J"⟩ : MethodName) (head1 (Jvm.Cond.code (⟨"java/lang/Math", "abs", "(J)J"⟩ : MethodName) jdk_29_method_61_code 2 (some .long) :: ws) ({ frames := 0, cells := 0, slots := 0, locals := 0 } : Room)) (fun a U => a = #[(.long q0)] ∧ Z.Warmed39 U.vm ∧ U.heap = h0) (fun _ _ _ _ _ => True) (fun _ U o U' => ∃ v L, o = .returned v ∧ Qp (.long (f5 q0)) h0 n0 v U'.heap L ∧ FrameEnd U o U' L ({ frames := 0, cells := 0, slots := 0, locals := 0 } : Room).cells ({ frames := 0, cells := 0, slots := 0, locals := 0 } : Room).slots) := by
  refine MetFree.of_bodySF (Jvm.Free.JP.mathPlain rfl (by decide +kernel)) hisR ?_
  intro p e s m args below meth c s₁ Bd hml0 hP hK
  obtain ⟨rfl, hZ, hh⟩ := hP
  have hx := Bd.exec
  have hby := Bd.bytes
  have hml : c.maxLocals = 2 := hml0
  have hown : s.vm.findClass "java/lang/Math" = some m.cls := findClass_of_methodNamed Bd.named
  have hnm := (name_of_methodNamed Bd.named Bd.method).1
  have hlk : meth.locks = false := BodyLoose.notSynchronized Bd
  have X0 : Stand p l e ({ frames := 0, cells := 0, slots := 0, locals := 0 } : Room) s m #[(.long q0)] below meth c s₁ [] 0 0 := Stand.of_body Bd
  have e0 : s₁.heap = h0 := by rw [← hh, Bd.state]; rfl
  have N0 := Fr.nil n0
  have K0 : Keep h0 h0 [] := Keep.refl _ _
  show Goes p e below s (Qp (.long (f5 q0)) h0 n0) ({ frames := 0, cells := 0, slots := 0, locals := 0 } : Room).cells ({ frames := 0, cells := 0, slots := 0, locals := 0 } : Room).slots (s₁.setTop (entryFrame m #[(.long q0)] 2))
  rw [ef_rm5]
  show Goes p e below s _ _ _ (s₁.setTop (mkF m 0 #[.val (.long q0), .second] []))
  refine Goes.go (fun _ k => XS.lloadN X0.here hx rfl (hb hby d5_0) rfl  k) ?_
  show Goes p e below s _ _ _ (s₁.setTop (mkF m 1 #[.val (.long q0), .second] [(.long q0)]))
  refine Goes.go (fun _ k => XS.lconst X0.here hx rfl (hb hby d5_1) k) ?_
  show Goes p e below s _ _ _ (s₁.setTop (mkF m 2 #[.val (.long q0), .second] [(.long (0 : Int64)), (.long q0)]))
  refine Goes.go (fun _ k => XS.lcmp X0.here hx rfl (hb hby d5_2) rfl k) ?_
  show Goes p e below s _ _ _ (s₁.setTop (mkF m 3 #[.val (.long q0), .second] [(.int (lcmpW q0 (0 : Int64)))]))
  obtain ⟨z1_s0, hz1_s0⟩ : ∃ z : Int64, z = if q0 < (0 : Int64) then (-q0) else q0 := ⟨_, rfl⟩
  have sm1 : ∀ t, Steps p.tables e below (s₁.setTop (mkF m 12 #[.val (.long q0), .second] [(.long z1_s0)])) t → Steps p.tables e below (s₁.setTop (mkF m 3 #[.val (.long q0), .second] [(.int (lcmpW q0 (0 : Int64)))])) t := by
    intro t k
    by_cases hc3_1 : q0 < (0 : Int64)
    · have k2 : Steps p.tables e below (s₁.setTop (mkF m 12 #[.val (.long q0), .second] [(.long (-q0))])) t := by simpa only [hz1_s0, if_pos hc3_1] using k
      show Steps p.tables e below (s₁.setTop (mkF m 3 #[.val (.long q0), .second] [(.int (lcmpW q0 (0 : Int64)))])) _
      refine XS.ifNo X0.here hx rfl (hb hby d5_3) rfl ((if0 _ _).trans (tlt ((lw_lt q0 (0 : Int64)).mpr hc3_1)).2.1) ?_
      show Steps p.tables e below (s₁.setTop (mkF m 6 #[.val (.long q0), .second] [])) _
      refine XS.lloadN X0.here hx rfl (hb hby d5_6) rfl  ?_
      show Steps p.tables e below (s₁.setTop (mkF m 7 #[.val (.long q0), .second] [(.long q0)])) _
      refine XS.lneg X0.here hx rfl (hb hby d5_7) rfl ?_
      show Steps p.tables e below (s₁.setTop (mkF m 8 #[.val (.long q0), .second] [(.long (-q0))])) _
      refine XS.goto X0.here hx rfl (pc0 := 8) (pc' := 12) rfl (hb hby d5_8) (by decide) (by decide) ?_
      exact k2
    · have k2 : Steps p.tables e below (s₁.setTop (mkF m 12 #[.val (.long q0), .second] [(.long q0)])) t := by simpa only [hz1_s0, if_neg hc3_1] using k
      show Steps p.tables e below (s₁.setTop (mkF m 3 #[.val (.long q0), .second] [(.int (lcmpW q0 (0 : Int64)))])) _
      refine XS.ifYes X0.here hx rfl (pc0 := 3) (pc' := 11) rfl (hb hby d5_3) rfl ((if0 _ _).trans (flt (mt (lw_lt q0 (0 : Int64)).mp hc3_1)).2.1) (by decide) (by decide) ?_
      show Steps p.tables e below (s₁.setTop (mkF m 11 #[.val (.long q0), .second] [])) _
      refine XS.lloadN X0.here hx rfl (hb hby d5_11) rfl  ?_
      exact k2
  refine Goes.go sm1 ?_
  show Goes p e below s _ _ _ (s₁.setTop (mkF m 12 #[.val (.long q0), .second] [(.long z1_s0)]))
  refine Goes.retJ X0 hx hlk Bd.returns (hb hby d5_12) ?_ (by decide) (by decide)
  exact ⟨by subst hz1_s0; rfl, N0, e0⟩
theorem own_mul {x y : Int64} (hx : 0 < x.toInt) (hy : 0 < y.toInt) (h : x.toInt * y.toInt < 2 ^ 63) : (x * y).toInt = x.toInt * y.toInt := by
  have h0 : 0 ≤ x.toInt * y.toInt := Int.mul_nonneg (by omega) (by omega)
  exact Jvm.Kit.i64_mul (by omega) h
theorem own_back {x y : Int64} (hx : 0 < x.toInt) (hy : 0 < y.toInt) (h : x.toInt * y.toInt < 2 ^ 63) : (x * y) / y = x := Int64.toInt_inj.mp (by
  have h0 : 0 ≤ x.toInt * y.toInt := Int.mul_nonneg (by omega) (by omega)
  rw [own_divN (by rw [own_mul hx hy h]; exact h0) hy, own_mul hx hy h]
  exact Int.mul_ediv_cancel _ (by omega))
theorem d4_0 : decode jdk_29_method_30_code 0 = .ok (.lload_n 0, 1) := by decide +kernel
theorem d4_1 : decode jdk_29_method_30_code 1 = .ok (.lload_n 2, 1) := by decide +kernel
theorem d4_2 : decode jdk_29_method_30_code 2 = .ok (.lmul, 1) := by decide +kernel
theorem d4_3 : decode jdk_29_method_30_code 3 = .ok (.lstore 4, 2) := by decide +kernel
theorem d4_5 : decode jdk_29_method_30_code 5 = .ok (.lload_n 0, 1) := by decide +kernel
theorem d4_6 : decode jdk_29_method_30_code 6 = .ok (.invokestatic 122, 3) := by decide +kernel
theorem d4_9 : decode jdk_29_method_30_code 9 = .ok (.lstore 6, 2) := by decide +kernel
theorem d4_11 : decode jdk_29_method_30_code 11 = .ok (.lload_n 2, 1) := by decide +kernel
theorem d4_12 : decode jdk_29_method_30_code 12 = .ok (.invokestatic 122, 3) := by decide +kernel
theorem d4_15 : decode jdk_29_method_30_code 15 = .ok (.lstore 8, 2) := by decide +kernel
theorem d4_17 : decode jdk_29_method_30_code 17 = .ok (.lload 6, 2) := by decide +kernel
theorem d4_19 : decode jdk_29_method_30_code 19 = .ok (.lload 8, 2) := by decide +kernel
theorem d4_21 : decode jdk_29_method_30_code 21 = .ok (.lor, 1) := by decide +kernel
theorem d4_22 : decode jdk_29_method_30_code 22 = .ok (.bipush 31, 2) := by decide +kernel
theorem d4_24 : decode jdk_29_method_30_code 24 = .ok (.lushr, 1) := by decide +kernel
theorem d4_25 : decode jdk_29_method_30_code 25 = .ok (.lconst 0, 1) := by decide +kernel
theorem d4_26 : decode jdk_29_method_30_code 26 = .ok (.lcmp, 1) := by decide +kernel
theorem d4_27 : decode jdk_29_method_30_code 27 = .ok (.ifCond .eq 44, 3) := by decide +kernel
theorem d4_30 : decode jdk_29_method_30_code 30 = .ok (.lload_n 2, 1) := by decide +kernel
theorem d4_31 : decode jdk_29_method_30_code 31 = .ok (.lconst 0, 1) := by decide +kernel
theorem d4_32 : decode jdk_29_method_30_code 32 = .ok (.lcmp, 1) := by decide +kernel
theorem d4_33 : decode jdk_29_method_30_code 33 = .ok (.ifCond .eq 12, 3) := by decide +kernel
theorem d4_36 : decode jdk_29_method_30_code 36 = .ok (.lload 4, 2) := by decide +kernel
theorem d4_38 : decode jdk_29_method_30_code 38 = .ok (.lload_n 2, 1) := by decide +kernel
theorem d4_39 : decode jdk_29_method_30_code 39 = .ok (.ldiv, 1) := by decide +kernel
theorem d4_40 : decode jdk_29_method_30_code 40 = .ok (.lload_n 0, 1) := by decide +kernel
theorem d4_41 : decode jdk_29_method_30_code 41 = .ok (.lcmp, 1) := by decide +kernel
theorem d4_42 : decode jdk_29_method_30_code 42 = .ok (.ifCond .ne 19, 3) := by decide +kernel
theorem d4_45 : decode jdk_29_method_30_code 45 = .ok (.lload_n 0, 1) := by decide +kernel
theorem d4_46 : decode jdk_29_method_30_code 46 = .ok (.ldc2_w 128, 3) := by decide +kernel
theorem d4_49 : decode jdk_29_method_30_code 49 = .ok (.lcmp, 1) := by decide +kernel
theorem d4_50 : decode jdk_29_method_30_code 50 = .ok (.ifCond .ne 21, 3) := by decide +kernel
theorem d4_71 : decode jdk_29_method_30_code 71 = .ok (.lload 4, 2) := by decide +kernel
theorem d4_73 : decode jdk_29_method_30_code 73 = .ok (.lreturn, 1) := by decide +kernel
theorem ef_rm4 (m : MethodId) (x0 : Int64) (x1 : Int64) : entryFrame m #[(.long x0), (.long x1)] 10 = mkF m 0 #[.val (.long x0), .second, .val (.long x1), .second, .unset, .unset, .unset, .unset, .unset, .unset] [] := by first | (simp [entryFrame, mkF, argsToLocals, Value.category]; done) | rfl
def f4 (q0 : Int64) (q1 : Int64) : Int64 := (if ((((f5 q0) ||| (f5 q1)).toUInt64 >>> ((31 : Int32) &&& 0x3f).toInt64.toUInt64).toInt64) = (0 : Int64) then (q0 * q1) else (q0 * q1))
set_option maxRecDepth 65536 in
set_option maxHeartbeats 40000000 in
theorem rm4 (l : Launch) (Z : State) (a0 : Array Value) (hw : ∀ d ∈ tables_1, d.before a0 Z = true) (ws : List Jvm.Cond) (q0 : Int64) (q1 : Int64) (h0 : Heap) (n0 : Nat) (Z0 : n0 ≤ h0.size) (hx0 : 0 < q0.toInt) (hy0 : 0 < q1.toInt) (hxy : q0.toInt * q1.toInt < 2 ^ 63) :
    MetFree l (⟨"java/lang/Math", "multiplyExact", "(JJ)J"⟩ : MethodName) (head1 (Jvm.Cond.code (⟨"java/lang/Math", "multiplyExact", "(JJ)J"⟩ : MethodName) jdk_29_method_30_code 10 (some .long) :: ws) ({ frames := 1, cells := 0, slots := 0, locals := 13 } : Room)) (fun a U => a = #[(.long q0), (.long q1)] ∧ Z.Warmed39 U.vm ∧ U.heap = h0) (fun _ _ _ _ _ => True) (fun _ U o U' => ∃ v L, o = .returned v ∧ Qp (.long (f4 q0 q1)) h0 n0 v U'.heap L ∧ FrameEnd U o U' L ({ frames := 1, cells := 0, slots := 0, locals := 13 } : Room).cells ({ frames := 1, cells := 0, slots := 0, locals := 13 } : Room).slots) := by
  refine MetFree.of_bodySF (Jvm.Free.JP.mathPlain rfl (by decide +kernel)) hisR ?_
  intro p e s m args below meth c s₁ Bd hml0 hP hK
  obtain ⟨rfl, hZ, hh⟩ := hP
  have hx := Bd.exec
  have hby := Bd.bytes
  have hml : c.maxLocals = 10 := hml0
  have hown : s.vm.findClass "java/lang/Math" = some m.cls := findClass_of_methodNamed Bd.named
  have hnm := (name_of_methodNamed Bd.named Bd.method).1
  have hlk : meth.locks = false := BodyLoose.notSynchronized Bd
  have X0 : Stand p l e ({ frames := 1, cells := 0, slots := 0, locals := 13 } : Room) s m #[(.long q0), (.long q1)] below meth c s₁ [] 0 0 := Stand.of_body Bd
  have e0 : s₁.heap = h0 := by rw [← hh, Bd.state]; rfl
  have N0 := Fr.nil n0
  have K0 : Keep h0 h0 [] := Keep.refl _ _
  show Goes p e below s (Qp (.long (f4 q0 q1)) h0 n0) ({ frames := 1, cells := 0, slots := 0, locals := 13 } : Room).cells ({ frames := 1, cells := 0, slots := 0, locals := 13 } : Room).slots (s₁.setTop (entryFrame m #[(.long q0), (.long q1)] 10))
  rw [ef_rm4]
  show Goes p e below s _ _ _ (s₁.setTop (mkF m 0 #[.val (.long q0), .second, .val (.long q1), .second, .unset, .unset, .unset, .unset, .unset, .unset] []))
  refine Goes.go (fun _ k => XS.lloadN X0.here hx rfl (hb hby d4_0) rfl  k) ?_
  show Goes p e below s _ _ _ (s₁.setTop (mkF m 1 #[.val (.long q0), .second, .val (.long q1), .second, .unset, .unset, .unset, .unset, .unset, .unset] [(.long q0)]))
  refine Goes.go (fun _ k => XS.lloadN X0.here hx rfl (hb hby d4_1) rfl  k) ?_
  show Goes p e below s _ _ _ (s₁.setTop (mkF m 2 #[.val (.long q0), .second, .val (.long q1), .second, .unset, .unset, .unset, .unset, .unset, .unset] [(.long q1), (.long q0)]))
  refine Goes.go (fun _ k => XS.lmul X0.here hx rfl (hb hby d4_2) rfl k) ?_
  show Goes p e below s _ _ _ (s₁.setTop (mkF m 3 #[.val (.long q0), .second, .val (.long q1), .second, .unset, .unset, .unset, .unset, .unset, .unset] [(.long (q0 * q1))]))
  refine Goes.go (fun _ k => XS.lstore X0.here hx rfl (hb hby d4_3) rfl (l' := #[.val (.long q0), .second, .val (.long q1), .second, .val (.long (q0 * q1)), .second, .unset, .unset, .unset, .unset]) rfl k) ?_
  show Goes p e below s _ _ _ (s₁.setTop (mkF m 5 #[.val (.long q0), .second, .val (.long q1), .second, .val (.long (q0 * q1)), .second, .unset, .unset, .unset, .unset] []))
  refine Goes.go (fun _ k => XS.lloadN X0.here hx rfl (hb hby d4_5) rfl  k) ?_
  show Goes p e below s _ _ _ (s₁.setTop (mkF m 6 #[.val (.long q0), .second, .val (.long q1), .second, .val (.long (q0 * q1)), .second, .unset, .unset, .unset, .unset] [(.long q0)]))
  obtain ⟨_, _, ⟨T1, L1, k1, n1⟩, -, X1, ⟨Lc1, hQ1, l1, y1, z1⟩, st1⟩ := Jvm.LawKit.callS X0 hx (y := (⟨"java/lang/Math", "abs", "(J)J"⟩ : MethodName)) hown (mvT hZ (hw _ (List.mem_of_getElem? (i := 28) rfl))) (mvT hZ (hw _ (List.mem_of_getElem? (i := 29) rfl))) (mvT hZ (hw _ (List.mem_of_getElem? (i := 26) rfl))) (mvT hZ (hw _ (List.mem_of_getElem? (i := 30) rfl))) (by decide) (backOf (W := 0) (rm5 l Z a0 hw [] q0 h0 n0 Z0 ) hZ (hw _ (List.mem_of_getElem? (i := 30) rfl)) (hw _ (List.mem_of_getElem? (i := 26) rfl)) (by decide) (by decide)) (g := (mkF m 6 #[.val (.long q0), .second, .val (.long q1), .second, .val (.long (q0 * q1)), .second, .unset, .unset, .unset, .unset] [(.long q0)])) rfl (by rw [hml]; rfl) (argsL := [(.long q0)]) (rest := []) (lenOf pd_0 rfl) rfl (by show 2 * 0 + _ ≤ _; exact Nat.le_of_eq rfl) (hb hby d4_6) (fun _ _ => ⟨rfl, e0, (by decide : 0 + 0 ≤ _), (by decide : 0 + 0 ≤ _)⟩)
  dsimp only [Pt.U, Pt.locs, Pt.cells, Pt.slots] at X1 l1 y1 z1 st1 hQ1
  subst l1 y1 z1
  obtain ⟨rfl, N1q, e1⟩ := hQ1
  have N1 := Fr.app N0 N1q
  refine Goes.go st1 ?_
  show Goes p e below s _ _ _ (T1.setTop (mkF m 9 #[.val (.long q0), .second, .val (.long q1), .second, .val (.long (q0 * q1)), .second, .unset, .unset, .unset, .unset] [(.long (f5 q0))]))
  refine Goes.go (fun _ k => XS.lstore X1.here hx rfl (hb hby d4_9) rfl (l' := #[.val (.long q0), .second, .val (.long q1), .second, .val (.long (q0 * q1)), .second, .val (.long (f5 q0)), .second, .unset, .unset]) rfl k) ?_
  show Goes p e below s _ _ _ (T1.setTop (mkF m 11 #[.val (.long q0), .second, .val (.long q1), .second, .val (.long (q0 * q1)), .second, .val (.long (f5 q0)), .second, .unset, .unset] []))
  refine Goes.go (fun _ k => XS.lloadN X1.here hx rfl (hb hby d4_11) rfl  k) ?_
  show Goes p e below s _ _ _ (T1.setTop (mkF m 12 #[.val (.long q0), .second, .val (.long q1), .second, .val (.long (q0 * q1)), .second, .val (.long (f5 q0)), .second, .unset, .unset] [(.long q1)]))
  obtain ⟨_, _, ⟨T2, L2, k2, n2⟩, -, X2, ⟨Lc2, hQ2, l2, y2, z2⟩, st2⟩ := Jvm.LawKit.callS X1 hx (y := (⟨"java/lang/Math", "abs", "(J)J"⟩ : MethodName)) hown (mvT hZ (hw _ (List.mem_of_getElem? (i := 28) rfl))) (mvT hZ (hw _ (List.mem_of_getElem? (i := 29) rfl))) (mvT hZ (hw _ (List.mem_of_getElem? (i := 26) rfl))) (mvT hZ (hw _ (List.mem_of_getElem? (i := 30) rfl))) (by decide) (backOf (W := 0) (rm5 l Z a0 hw [] q1 h0 n0 Z0 ) hZ (hw _ (List.mem_of_getElem? (i := 30) rfl)) (hw _ (List.mem_of_getElem? (i := 26) rfl)) (by decide) (by decide)) (g := (mkF m 12 #[.val (.long q0), .second, .val (.long q1), .second, .val (.long (q0 * q1)), .second, .val (.long (f5 q0)), .second, .unset, .unset] [(.long q1)])) rfl (by rw [hml]; rfl) (argsL := [(.long q1)]) (rest := []) (lenOf pd_0 rfl) rfl (by show 2 * 0 + _ ≤ _; exact Nat.le_of_eq rfl) (hb hby d4_12) (fun _ _ => ⟨rfl, e1, (by decide : 0 + 0 ≤ _), (by decide : 0 + 0 ≤ _)⟩)
  dsimp only [Pt.U, Pt.locs, Pt.cells, Pt.slots] at X2 l2 y2 z2 st2 hQ2
  subst l2 y2 z2
  obtain ⟨rfl, N2q, e2⟩ := hQ2
  have N2 := Fr.app N1 N2q
  refine Goes.go st2 ?_
  show Goes p e below s _ _ _ (T2.setTop (mkF m 15 #[.val (.long q0), .second, .val (.long q1), .second, .val (.long (q0 * q1)), .second, .val (.long (f5 q0)), .second, .unset, .unset] [(.long (f5 q1))]))
  refine Goes.go (fun _ k => XS.lstore X2.here hx rfl (hb hby d4_15) rfl (l' := #[.val (.long q0), .second, .val (.long q1), .second, .val (.long (q0 * q1)), .second, .val (.long (f5 q0)), .second, .val (.long (f5 q1)), .second]) rfl k) ?_
  show Goes p e below s _ _ _ (T2.setTop (mkF m 17 #[.val (.long q0), .second, .val (.long q1), .second, .val (.long (q0 * q1)), .second, .val (.long (f5 q0)), .second, .val (.long (f5 q1)), .second] []))
  refine Goes.go (fun _ k => XS.lload X2.here hx rfl (hb hby d4_17) rfl  k) ?_
  show Goes p e below s _ _ _ (T2.setTop (mkF m 19 #[.val (.long q0), .second, .val (.long q1), .second, .val (.long (q0 * q1)), .second, .val (.long (f5 q0)), .second, .val (.long (f5 q1)), .second] [(.long (f5 q0))]))
  refine Goes.go (fun _ k => XS.lload X2.here hx rfl (hb hby d4_19) rfl  k) ?_
  show Goes p e below s _ _ _ (T2.setTop (mkF m 21 #[.val (.long q0), .second, .val (.long q1), .second, .val (.long (q0 * q1)), .second, .val (.long (f5 q0)), .second, .val (.long (f5 q1)), .second] [(.long (f5 q1)), (.long (f5 q0))]))
  refine Goes.go (fun _ k => XS.lor X2.here hx rfl (hb hby d4_21) rfl k) ?_
  show Goes p e below s _ _ _ (T2.setTop (mkF m 22 #[.val (.long q0), .second, .val (.long q1), .second, .val (.long (q0 * q1)), .second, .val (.long (f5 q0)), .second, .val (.long (f5 q1)), .second] [(.long ((f5 q0) ||| (f5 q1)))]))
  refine Goes.go (fun _ k => XS.bipush X2.here hx rfl (hb hby d4_22) k) ?_
  show Goes p e below s _ _ _ (T2.setTop (mkF m 24 #[.val (.long q0), .second, .val (.long q1), .second, .val (.long (q0 * q1)), .second, .val (.long (f5 q0)), .second, .val (.long (f5 q1)), .second] [(.int (31 : Int32)), (.long ((f5 q0) ||| (f5 q1)))]))
  refine Goes.go (fun _ k => XS.lushr X2.here hx rfl (hb hby d4_24) rfl k) ?_
  show Goes p e below s _ _ _ (T2.setTop (mkF m 25 #[.val (.long q0), .second, .val (.long q1), .second, .val (.long (q0 * q1)), .second, .val (.long (f5 q0)), .second, .val (.long (f5 q1)), .second] [(.long ((((f5 q0) ||| (f5 q1)).toUInt64 >>> ((31 : Int32) &&& 0x3f).toInt64.toUInt64).toInt64))]))
  refine Goes.go (fun _ k => XS.lconst X2.here hx rfl (hb hby d4_25) k) ?_
  show Goes p e below s _ _ _ (T2.setTop (mkF m 26 #[.val (.long q0), .second, .val (.long q1), .second, .val (.long (q0 * q1)), .second, .val (.long (f5 q0)), .second, .val (.long (f5 q1)), .second] [(.long (0 : Int64)), (.long ((((f5 q0) ||| (f5 q1)).toUInt64 >>> ((31 : Int32) &&& 0x3f).toInt64.toUInt64).toInt64))]))
  refine Goes.go (fun _ k => XS.lcmp X2.here hx rfl (hb hby d4_26) rfl k) ?_
  show Goes p e below s _ _ _ (T2.setTop (mkF m 27 #[.val (.long q0), .second, .val (.long q1), .second, .val (.long (q0 * q1)), .second, .val (.long (f5 q0)), .second, .val (.long (f5 q1)), .second] [(.int (lcmpW ((((f5 q0) ||| (f5 q1)).toUInt64 >>> ((31 : Int32) &&& 0x3f).toInt64.toUInt64).toInt64) (0 : Int64)))]))
  by_cases hc27_3 : ((((f5 q0) ||| (f5 q1)).toUInt64 >>> ((31 : Int32) &&& 0x3f).toInt64.toUInt64).toInt64) = (0 : Int64)
  · skip
    refine Goes.qj (if_pos hc27_3) ?_
    refine Goes.go (fun _ k => XS.ifYes X2.here hx rfl (pc0 := 27) (pc' := 71) rfl (hb hby d4_27) rfl ((if0 _ _).trans (teq ((lw_eq ((((f5 q0) ||| (f5 q1)).toUInt64 >>> ((31 : Int32) &&& 0x3f).toInt64.toUInt64).toInt64) (0 : Int64)).mpr hc27_3)).1) (by decide) (by decide) k) ?_
    show Goes p e below s _ _ _ (T2.setTop (mkF m 71 #[.val (.long q0), .second, .val (.long q1), .second, .val (.long (q0 * q1)), .second, .val (.long (f5 q0)), .second, .val (.long (f5 q1)), .second] []))
    refine Goes.go (fun _ k => XS.lload X2.here hx rfl (hb hby d4_71) rfl  k) ?_
    show Goes p e below s _ _ _ (T2.setTop (mkF m 73 #[.val (.long q0), .second, .val (.long q1), .second, .val (.long (q0 * q1)), .second, .val (.long (f5 q0)), .second, .val (.long (f5 q1)), .second] [(.long (q0 * q1))]))
    refine Goes.retJ X2 hx hlk Bd.returns (hb hby d4_73) ?_ (by decide) (by decide)
    exact ⟨by rfl, N2, e2⟩
  · skip
    refine Goes.qj (if_neg hc27_3) ?_
    refine Goes.go (fun _ k => XS.ifNo X2.here hx rfl (hb hby d4_27) rfl ((if0 _ _).trans (feq (mt (lw_eq ((((f5 q0) ||| (f5 q1)).toUInt64 >>> ((31 : Int32) &&& 0x3f).toInt64.toUInt64).toInt64) (0 : Int64)).mp hc27_3)).1) k) ?_
    show Goes p e below s _ _ _ (T2.setTop (mkF m 30 #[.val (.long q0), .second, .val (.long q1), .second, .val (.long (q0 * q1)), .second, .val (.long (f5 q0)), .second, .val (.long (f5 q1)), .second] []))
    refine Goes.go (fun _ k => XS.lloadN X2.here hx rfl (hb hby d4_30) rfl  k) ?_
    show Goes p e below s _ _ _ (T2.setTop (mkF m 31 #[.val (.long q0), .second, .val (.long q1), .second, .val (.long (q0 * q1)), .second, .val (.long (f5 q0)), .second, .val (.long (f5 q1)), .second] [(.long q1)]))
    refine Goes.go (fun _ k => XS.lconst X2.here hx rfl (hb hby d4_31) k) ?_
    show Goes p e below s _ _ _ (T2.setTop (mkF m 32 #[.val (.long q0), .second, .val (.long q1), .second, .val (.long (q0 * q1)), .second, .val (.long (f5 q0)), .second, .val (.long (f5 q1)), .second] [(.long (0 : Int64)), (.long q1)]))
    refine Goes.go (fun _ k => XS.lcmp X2.here hx rfl (hb hby d4_32) rfl k) ?_
    show Goes p e below s _ _ _ (T2.setTop (mkF m 33 #[.val (.long q0), .second, .val (.long q1), .second, .val (.long (q0 * q1)), .second, .val (.long (f5 q0)), .second, .val (.long (f5 q1)), .second] [(.int (lcmpW q1 (0 : Int64)))]))
    have hc33_4 : ¬ (q1 = (0 : Int64)) := own_nz hy0
    refine Goes.go (fun _ k => XS.ifNo X2.here hx rfl (hb hby d4_33) rfl ((if0 _ _).trans (feq (mt (lw_eq q1 (0 : Int64)).mp hc33_4)).1) k) ?_
    show Goes p e below s _ _ _ (T2.setTop (mkF m 36 #[.val (.long q0), .second, .val (.long q1), .second, .val (.long (q0 * q1)), .second, .val (.long (f5 q0)), .second, .val (.long (f5 q1)), .second] []))
    refine Goes.go (fun _ k => XS.lload X2.here hx rfl (hb hby d4_36) rfl  k) ?_
    show Goes p e below s _ _ _ (T2.setTop (mkF m 38 #[.val (.long q0), .second, .val (.long q1), .second, .val (.long (q0 * q1)), .second, .val (.long (f5 q0)), .second, .val (.long (f5 q1)), .second] [(.long (q0 * q1))]))
    refine Goes.go (fun _ k => XS.lloadN X2.here hx rfl (hb hby d4_38) rfl  k) ?_
    show Goes p e below s _ _ _ (T2.setTop (mkF m 39 #[.val (.long q0), .second, .val (.long q1), .second, .val (.long (q0 * q1)), .second, .val (.long (f5 q0)), .second, .val (.long (f5 q1)), .second] [(.long q1), (.long (q0 * q1))]))
    refine Goes.go (fun _ k => XS.ldiv X2.here hx rfl (hb hby d4_39) rfl (own_nz hy0) k) ?_
    show Goes p e below s _ _ _ (T2.setTop (mkF m 40 #[.val (.long q0), .second, .val (.long q1), .second, .val (.long (q0 * q1)), .second, .val (.long (f5 q0)), .second, .val (.long (f5 q1)), .second] [(.long ((q0 * q1) / q1))]))
    refine Goes.go (fun _ k => XS.lloadN X2.here hx rfl (hb hby d4_40) rfl  k) ?_
    show Goes p e below s _ _ _ (T2.setTop (mkF m 41 #[.val (.long q0), .second, .val (.long q1), .second, .val (.long (q0 * q1)), .second, .val (.long (f5 q0)), .second, .val (.long (f5 q1)), .second] [(.long q0), (.long ((q0 * q1) / q1))]))
    refine Goes.go (fun _ k => XS.lcmp X2.here hx rfl (hb hby d4_41) rfl k) ?_
    show Goes p e below s _ _ _ (T2.setTop (mkF m 42 #[.val (.long q0), .second, .val (.long q1), .second, .val (.long (q0 * q1)), .second, .val (.long (f5 q0)), .second, .val (.long (f5 q1)), .second] [(.int (lcmpW ((q0 * q1) / q1) q0))]))
    have hc42_5 : ((q0 * q1) / q1) = q0 := own_back hx0 hy0 hxy
    refine Goes.go (fun _ k => XS.ifNo X2.here hx rfl (hb hby d4_42) rfl ((if0 _ _).trans (teq ((lw_eq ((q0 * q1) / q1) q0).mpr hc42_5)).2) k) ?_
    show Goes p e below s _ _ _ (T2.setTop (mkF m 45 #[.val (.long q0), .second, .val (.long q1), .second, .val (.long (q0 * q1)), .second, .val (.long (f5 q0)), .second, .val (.long (f5 q1)), .second] []))
    refine Goes.go (fun _ k => XS.lloadN X2.here hx rfl (hb hby d4_45) rfl  k) ?_
    show Goes p e below s _ _ _ (T2.setTop (mkF m 46 #[.val (.long q0), .second, .val (.long q1), .second, .val (.long (q0 * q1)), .second, .val (.long (f5 q0)), .second, .val (.long (f5 q1)), .second] [(.long q0)]))
    refine Goes.go (fun _ k => X2.ldc2Long hx hown (mvT hZ (hw _ (List.mem_of_getElem? (i := 55) rfl))) (g := (mkF m 46 #[.val (.long q0), .second, .val (.long q1), .second, .val (.long (q0 * q1)), .second, .val (.long (f5 q0)), .second, .val (.long (f5 q1)), .second] [(.long q0)])) rfl (hb hby d4_46) _ k) ?_
    show Goes p e below s _ _ _ (T2.setTop (mkF m 49 #[.val (.long q0), .second, .val (.long q1), .second, .val (.long (q0 * q1)), .second, .val (.long (f5 q0)), .second, .val (.long (f5 q1)), .second] [(.long (-9223372036854775808 : Int64)), (.long q0)]))
    refine Goes.go (fun _ k => XS.lcmp X2.here hx rfl (hb hby d4_49) rfl k) ?_
    show Goes p e below s _ _ _ (T2.setTop (mkF m 50 #[.val (.long q0), .second, .val (.long q1), .second, .val (.long (q0 * q1)), .second, .val (.long (f5 q0)), .second, .val (.long (f5 q1)), .second] [(.int (lcmpW q0 (-9223372036854775808 : Int64)))]))
    have hc50_6 : ¬ (q0 = (-9223372036854775808 : Int64)) := by rintro rfl; revert hx0; decide
    refine Goes.go (fun _ k => XS.ifYes X2.here hx rfl (pc0 := 50) (pc' := 71) rfl (hb hby d4_50) rfl ((if0 _ _).trans (feq (mt (lw_eq q0 (-9223372036854775808 : Int64)).mp hc50_6)).2) (by decide) (by decide) k) ?_
    show Goes p e below s _ _ _ (T2.setTop (mkF m 71 #[.val (.long q0), .second, .val (.long q1), .second, .val (.long (q0 * q1)), .second, .val (.long (f5 q0)), .second, .val (.long (f5 q1)), .second] []))
    refine Goes.go (fun _ k => XS.lload X2.here hx rfl (hb hby d4_71) rfl  k) ?_
    show Goes p e below s _ _ _ (T2.setTop (mkF m 73 #[.val (.long q0), .second, .val (.long q1), .second, .val (.long (q0 * q1)), .second, .val (.long (f5 q0)), .second, .val (.long (f5 q1)), .second] [(.long (q0 * q1))]))
    refine Goes.retJ X2 hx hlk Bd.returns (hb hby d4_73) ?_ (by decide) (by decide)
    exact ⟨by rfl, N2, e2⟩
theorem own_f5 (x y : Int64) : f4 x y = x * y := by unfold f4; exact ite_self _
theorem d1_0 : decode prog_14_method_1_code 0 = .ok (.aload_n 0, 1) := by decide +kernel
theorem d1_1 : decode prog_14_method_1_code 1 = .ok (.invokespecial 1, 3) := by decide +kernel
theorem d1_4 : decode prog_14_method_1_code 4 = .ok (.lload_n 1, 1) := by decide +kernel
theorem d1_5 : decode prog_14_method_1_code 5 = .ok (.lload_n 3, 1) := by decide +kernel
theorem d1_6 : decode prog_14_method_1_code 6 = .ok (.invokestatic 7, 3) := by decide +kernel
theorem d1_9 : decode prog_14_method_1_code 9 = .ok (.lstore 7, 2) := by decide +kernel
theorem d1_11 : decode prog_14_method_1_code 11 = .ok (.aload_n 0, 1) := by decide +kernel
theorem d1_12 : decode prog_14_method_1_code 12 = .ok (.lload_n 1, 1) := by decide +kernel
theorem d1_13 : decode prog_14_method_1_code 13 = .ok (.putfield 13, 3) := by decide +kernel
theorem d1_16 : decode prog_14_method_1_code 16 = .ok (.aload_n 0, 1) := by decide +kernel
theorem d1_17 : decode prog_14_method_1_code 17 = .ok (.lload_n 3, 1) := by decide +kernel
theorem d1_18 : decode prog_14_method_1_code 18 = .ok (.putfield 17, 3) := by decide +kernel
theorem d1_21 : decode prog_14_method_1_code 21 = .ok (.aload_n 0, 1) := by decide +kernel
theorem d1_22 : decode prog_14_method_1_code 22 = .ok (.lload 5, 2) := by decide +kernel
theorem d1_24 : decode prog_14_method_1_code 24 = .ok (.putfield 20, 3) := by decide +kernel
theorem d1_27 : decode prog_14_method_1_code 27 = .ok (.aload_n 0, 1) := by decide +kernel
theorem d1_28 : decode prog_14_method_1_code 28 = .ok (.lload_n 3, 1) := by decide +kernel
theorem d1_29 : decode prog_14_method_1_code 29 = .ok (.lload 7, 2) := by decide +kernel
theorem d1_31 : decode prog_14_method_1_code 31 = .ok (.ldiv, 1) := by decide +kernel
theorem d1_32 : decode prog_14_method_1_code 32 = .ok (.putfield 23, 3) := by decide +kernel
theorem d1_35 : decode prog_14_method_1_code 35 = .ok (.aload_n 0, 1) := by decide +kernel
theorem d1_36 : decode prog_14_method_1_code 36 = .ok (.lload_n 1, 1) := by decide +kernel
theorem d1_37 : decode prog_14_method_1_code 37 = .ok (.lload 7, 2) := by decide +kernel
theorem d1_39 : decode prog_14_method_1_code 39 = .ok (.ldiv, 1) := by decide +kernel
theorem d1_40 : decode prog_14_method_1_code 40 = .ok (.putfield 26, 3) := by decide +kernel
theorem d1_43 : decode prog_14_method_1_code 43 = .ok (.aload_n 0, 1) := by decide +kernel
theorem d1_44 : decode prog_14_method_1_code 44 = .ok (.lload 5, 2) := by decide +kernel
theorem d1_46 : decode prog_14_method_1_code 46 = .ok (.aload_n 0, 1) := by decide +kernel
theorem d1_47 : decode prog_14_method_1_code 47 = .ok (.getfield 23, 3) := by decide +kernel
theorem d1_50 : decode prog_14_method_1_code 50 = .ok (.invokestatic 29, 3) := by decide +kernel
theorem d1_53 : decode prog_14_method_1_code 53 = .ok (.putfield 34, 3) := by decide +kernel
theorem d1_56 : decode prog_14_method_1_code 56 = .ok (.goto 22, 3) := by decide +kernel
theorem d1_78 : decode prog_14_method_1_code 78 = .ok (.aload_n 0, 1) := by decide +kernel
theorem d1_79 : decode prog_14_method_1_code 79 = .ok (.aload_n 0, 1) := by decide +kernel
theorem d1_80 : decode prog_14_method_1_code 80 = .ok (.getfield 34, 3) := by decide +kernel
theorem d1_83 : decode prog_14_method_1_code 83 = .ok (.aload_n 0, 1) := by decide +kernel
theorem d1_84 : decode prog_14_method_1_code 84 = .ok (.getfield 26, 3) := by decide +kernel
theorem d1_87 : decode prog_14_method_1_code 87 = .ok (.ldiv, 1) := by decide +kernel
theorem d1_88 : decode prog_14_method_1_code 88 = .ok (.putfield 48, 3) := by decide +kernel
theorem d1_91 : decode prog_14_method_1_code 91 = .ok (.return_, 1) := by decide +kernel
theorem pn_1 : plainName "com/example/danaid/danaid/TokenBucketUnits" = true := by first | (simp [plainName, overriddenIn]; done) | decide +kernel
theorem ef_rm1 (m : MethodId) (x0 : Addr) (x1 : Int64) (x2 : Int64) (x3 : Int64) : entryFrame m #[(.ref x0), (.long x1), (.long x2), (.long x3)] 10 = mkF m 0 #[.val (.ref x0), .val (.long x1), .second, .val (.long x2), .second, .val (.long x3), .second, .unset, .unset, .unset] [] := by first | (simp [entryFrame, mkF, argsToLocals, Value.category]; done) | rfl
def Q_rm1 (Z : State) (r0 : Addr) (q1 : Int64) (q2 : Int64) (q3 : Int64) (h0 : Heap) (n0 : Nat) (v : Option Value) (h : Heap) (L : List Loc) : Prop := v = none ∧ Fr n0 L ∧ Keep h0 h [r0] ∧ Exa Z h r0 "com/example/danaid/danaid/TokenBucketUnits" ∧ Fld Z h r0 "com/example/danaid/danaid/TokenBucketUnits" "limit" "J" (.long q1) ∧ Fld Z h r0 "com/example/danaid/danaid/TokenBucketUnits" "periodMillis" "J" (.long q2) ∧ Fld Z h r0 "com/example/danaid/danaid/TokenBucketUnits" "burst" "J" (.long q3) ∧ Fld Z h r0 "com/example/danaid/danaid/TokenBucketUnits" "perToken" "J" (.long (q2 / (own_g q1 q2))) ∧ Fld Z h r0 "com/example/danaid/danaid/TokenBucketUnits" "perMilli" "J" (.long (q1 / (own_g q1 q2))) ∧ Fld Z h r0 "com/example/danaid/danaid/TokenBucketUnits" "capacity" "J" (.long (q3 * (q2 / (own_g q1 q2)))) ∧ Fld Z h r0 "com/example/danaid/danaid/TokenBucketUnits" "fillMillis" "J" (.long ((q3 * (q2 / (own_g q1 q2))) / (q1 / (own_g q1 q2))))
set_option maxRecDepth 65536 in
set_option maxHeartbeats 40000000 in
theorem rm1 (l : Launch) (Z : State) (a0 : Array Value) (hw : ∀ d ∈ tables_1, d.before a0 Z = true) (ws : List Jvm.Cond) (r0 : Addr) (q1 : Int64) (q2 : Int64) (q3 : Int64) (h0 : Heap) (n0 : Nat) (Z0 : n0 ≤ h0.size) (E_r0 : Exa Z h0 r0 "com/example/danaid/danaid/TokenBucketUnits") (g_r0 : n0 ≤ r0) (F_r0_limit : Fld Z h0 r0 "com/example/danaid/danaid/TokenBucketUnits" "limit" "J" (.long (0 : Int64))) (F_r0_periodMillis : Fld Z h0 r0 "com/example/danaid/danaid/TokenBucketUnits" "periodMillis" "J" (.long (0 : Int64))) (F_r0_burst : Fld Z h0 r0 "com/example/danaid/danaid/TokenBucketUnits" "burst" "J" (.long (0 : Int64))) (F_r0_perToken : Fld Z h0 r0 "com/example/danaid/danaid/TokenBucketUnits" "perToken" "J" (.long (0 : Int64))) (F_r0_perMilli : Fld Z h0 r0 "com/example/danaid/danaid/TokenBucketUnits" "perMilli" "J" (.long (0 : Int64))) (F_r0_capacity : Fld Z h0 r0 "com/example/danaid/danaid/TokenBucketUnits" "capacity" "J" (.long (0 : Int64))) (F_r0_fillMillis : Fld Z h0 r0 "com/example/danaid/danaid/TokenBucketUnits" "fillMillis" "J" (.long (0 : Int64))) (hP1 : 0 < q1.toInt) (hP2 : 0 < q2.toInt) (hP3 : 0 < q3.toInt) (hP4 : q3.toInt * q2.toInt < 2 ^ 63) :
    MetFree l (⟨"com/example/danaid/danaid/TokenBucketUnits", "<init>", "(JJJ)V"⟩ : MethodName) (head1 (Jvm.Cond.codeWith (⟨"com/example/danaid/danaid/TokenBucketUnits", "<init>", "(JJJ)V"⟩ : MethodName) prog_14_method_1_code 10 none [((43 : Nat), (56 : Nat), (59 : Nat), (37 : Nat))] :: ws) ({ frames := 2, cells := 0, slots := 0, locals := 35 } : Room)) (fun a U => a = #[(.ref r0), (.long q1), (.long q2), (.long q3)] ∧ Z.Warmed39 U.vm ∧ U.heap = h0) (fun _ _ _ _ _ => True) (fun _ U o U' => ∃ v L, o = .returned v ∧ Q_rm1 Z r0 q1 q2 q3 h0 n0 v U'.heap L ∧ FrameEnd U o U' L ({ frames := 2, cells := 0, slots := 0, locals := 35 } : Room).cells ({ frames := 2, cells := 0, slots := 0, locals := 35 } : Room).slots) := by
  refine MetFree.of_bodySF (plainFor_of_name pn_1) hisWith ?_
  intro p e s m args below meth c s₁ Bd hml0 hP hK
  obtain ⟨rfl, hZ, hh⟩ := hP
  have hx := Bd.exec
  have hby := Bd.bytes
  have hml : c.maxLocals = 10 := hml0
  have hown : s.vm.findClass "com/example/danaid/danaid/TokenBucketUnits" = some m.cls := findClass_of_methodNamed Bd.named
  have hnm := (name_of_methodNamed Bd.named Bd.method).1
  have hlk : meth.locks = false := BodyLoose.notSynchronized Bd
  have X0 : Stand p l e ({ frames := 2, cells := 0, slots := 0, locals := 35 } : Room) s m #[(.ref r0), (.long q1), (.long q2), (.long q3)] below meth c s₁ [] 0 0 := Stand.of_body Bd
  have e0 : s₁.heap = h0 := by rw [← hh, Bd.state]; rfl
  have N0 := Fr.nil n0
  have K0 : Keep h0 h0 [r0] := Keep.refl _ _
  show Goes p e below s (Q_rm1 Z r0 q1 q2 q3 h0 n0) ({ frames := 2, cells := 0, slots := 0, locals := 35 } : Room).cells ({ frames := 2, cells := 0, slots := 0, locals := 35 } : Room).slots (s₁.setTop (entryFrame m #[(.ref r0), (.long q1), (.long q2), (.long q3)] 10))
  rw [ef_rm1]
  show Goes p e below s _ _ _ (s₁.setTop (mkF m 0 #[.val (.ref r0), .val (.long q1), .second, .val (.long q2), .second, .val (.long q3), .second, .unset, .unset, .unset] []))
  refine Goes.go (fun _ k => XS.aloadN X0.here hx rfl (hb hby d1_0) rfl rfl  k) ?_
  show Goes p e below s _ _ _ (s₁.setTop (mkF m 1 #[.val (.ref r0), .val (.long q1), .second, .val (.long q2), .second, .val (.long q3), .second, .unset, .unset, .unset] [(.ref r0)]))
  obtain ⟨T1, X1, e1, st1⟩ := initO X0 hx hZ hown (hw _ (List.mem_of_getElem? (i := 8) rfl)) (hw _ (List.mem_of_getElem? (i := 9) rfl)) (hw _ (List.mem_of_getElem? (i := 10) rfl)) e0 (g := (mkF m 1 #[.val (.ref r0), .val (.long q1), .second, .val (.long q2), .second, .val (.long q3), .second, .unset, .unset, .unset] [(.ref r0)])) rfl (by rw [hml]; rfl) rfl (hb hby d1_1) (by decide) (W := 0) (by show 2 * 0 + _ ≤ _; exact Nat.le_of_eq rfl) (by decide)
  refine Goes.go st1 ?_
  show Goes p e below s _ _ _ (T1.setTop (mkF m 4 #[.val (.ref r0), .val (.long q1), .second, .val (.long q2), .second, .val (.long q3), .second, .unset, .unset, .unset] []))
  refine Goes.go (fun _ k => XS.lloadN X1.here hx rfl (hb hby d1_4) rfl  k) ?_
  show Goes p e below s _ _ _ (T1.setTop (mkF m 5 #[.val (.ref r0), .val (.long q1), .second, .val (.long q2), .second, .val (.long q3), .second, .unset, .unset, .unset] [(.long q1)]))
  refine Goes.go (fun _ k => XS.lloadN X1.here hx rfl (hb hby d1_5) rfl  k) ?_
  show Goes p e below s _ _ _ (T1.setTop (mkF m 6 #[.val (.ref r0), .val (.long q1), .second, .val (.long q2), .second, .val (.long q3), .second, .unset, .unset, .unset] [(.long q2), (.long q1)]))
  obtain ⟨_, _, ⟨T2, L2, k2, n2⟩, -, X2, ⟨Lc2, hQ2, l2, y2, z2⟩, st2⟩ := Jvm.LawKit.callS X1 hx (y := (⟨"com/example/danaid/danaid/TokenBucketUnits", "greatestCommonDivisor", "(JJ)J"⟩ : MethodName)) hown (mvT hZ (hw _ (List.mem_of_getElem? (i := 11) rfl))) (mvT hZ (hw _ (List.mem_of_getElem? (i := 12) rfl))) (mvT hZ (hw _ (List.mem_of_getElem? (i := 4) rfl))) (mvT hZ (hw _ (List.mem_of_getElem? (i := 13) rfl))) (by decide) (backOf (W := 0) (rm3 l Z a0 hw [] q1 q2 h0 n0 Z0 hP1 hP2) hZ (hw _ (List.mem_of_getElem? (i := 13) rfl)) (hw _ (List.mem_of_getElem? (i := 4) rfl)) (by decide) (by decide)) (g := (mkF m 6 #[.val (.ref r0), .val (.long q1), .second, .val (.long q2), .second, .val (.long q3), .second, .unset, .unset, .unset] [(.long q2), (.long q1)])) rfl (by rw [hml]; rfl) (argsL := [(.long q1), (.long q2)]) (rest := []) (lenOf pd_1 rfl) rfl (by show 2 * 0 + _ ≤ _; exact Nat.le_of_eq rfl) (hb hby d1_6) (fun _ _ => ⟨rfl, e1, (by decide : 0 + 0 ≤ _), (by decide : 0 + 0 ≤ _)⟩)
  dsimp only [Pt.U, Pt.locs, Pt.cells, Pt.slots] at X2 l2 y2 z2 st2 hQ2
  subst l2 y2 z2
  obtain ⟨rfl, N2q, e2⟩ := hQ2
  have N2 := Fr.app N0 N2q
  refine Goes.go st2 ?_
  show Goes p e below s _ _ _ (T2.setTop (mkF m 9 #[.val (.ref r0), .val (.long q1), .second, .val (.long q2), .second, .val (.long q3), .second, .unset, .unset, .unset] [(.long (own_g q1 q2))]))
  refine Goes.go (fun _ k => XS.lstore X2.here hx rfl (hb hby d1_9) rfl (l' := #[.val (.ref r0), .val (.long q1), .second, .val (.long q2), .second, .val (.long q3), .second, .val (.long (own_g q1 q2)), .second, .unset]) rfl k) ?_
  have hg := own_gpos (y := q2) hP1
  have hg0 := own_nz hg
  show Goes p e below s _ _ _ (T2.setTop (mkF m 11 #[.val (.ref r0), .val (.long q1), .second, .val (.long q2), .second, .val (.long q3), .second, .val (.long (own_g q1 q2)), .second, .unset] []))
  refine Goes.go (fun _ k => XS.aloadN X2.here hx rfl (hb hby d1_11) rfl rfl  k) ?_
  show Goes p e below s _ _ _ (T2.setTop (mkF m 12 #[.val (.ref r0), .val (.long q1), .second, .val (.long q2), .second, .val (.long q3), .second, .val (.long (own_g q1 q2)), .second, .unset] [(.ref r0)]))
  refine Goes.go (fun _ k => XS.lloadN X2.here hx rfl (hb hby d1_12) rfl  k) ?_
  show Goes p e below s _ _ _ (T2.setTop (mkF m 13 #[.val (.ref r0), .val (.long q1), .second, .val (.long q2), .second, .val (.long q3), .second, .val (.long (own_g q1 q2)), .second, .unset] [(.long q1), (.ref r0)]))
  obtain ⟨T3, h3, X3, e3, W3, st3⟩ := putF X2 hx hZ hown (host := "") (Or.inl (hw _ (List.mem_of_getElem? (i := 14) rfl))) Via.refl e2 F_r0_limit E_r0 (Or.inr ⟨(hw _ (List.mem_of_getElem? (i := 15) rfl)), rfl, hnm⟩) (hw _ (List.mem_of_getElem? (i := 3) rfl)) (ty := .long) (by decide) rfl rfl (g := (mkF m 13 #[.val (.ref r0), .val (.long q1), .second, .val (.long q2), .second, .val (.long q3), .second, .val (.long (own_g q1 q2)), .second, .unset] [(.long q1), (.ref r0)])) rfl rfl (hb hby d1_13)
  have Fw3 := F_r0_limit.same W3
  have N3 := Fr.snoc X3 N2 g_r0
  have Z3 := Nat.le_trans Z0 (Keep.of_wr W3).1
  have K3 := Keep.wr K0 W3 (Or.inl (List.mem_of_getElem? (i := 0) rfl))
  refine Goes.go st3 ?_
  show Goes p e below s _ _ _ (T3.setTop (mkF m 16 #[.val (.ref r0), .val (.long q1), .second, .val (.long q2), .second, .val (.long q3), .second, .val (.long (own_g q1 q2)), .second, .unset] []))
  refine Goes.go (fun _ k => XS.aloadN X3.here hx rfl (hb hby d1_16) rfl rfl  k) ?_
  show Goes p e below s _ _ _ (T3.setTop (mkF m 17 #[.val (.ref r0), .val (.long q1), .second, .val (.long q2), .second, .val (.long q3), .second, .val (.long (own_g q1 q2)), .second, .unset] [(.ref r0)]))
  refine Goes.go (fun _ k => XS.lloadN X3.here hx rfl (hb hby d1_17) rfl  k) ?_
  show Goes p e below s _ _ _ (T3.setTop (mkF m 18 #[.val (.ref r0), .val (.long q1), .second, .val (.long q2), .second, .val (.long q3), .second, .val (.long (own_g q1 q2)), .second, .unset] [(.long q2), (.ref r0)]))
  obtain ⟨T4, h4, X4, e4, W4, st4⟩ := putF X3 hx hZ hown (host := "") (Or.inl (hw _ (List.mem_of_getElem? (i := 16) rfl))) Via.refl e3 (F_r0_periodMillis.other W3 (Or.inr (slot_ne (Or.inr (hw _ (List.mem_of_getElem? (i := 17) rfl))) (Or.inr (hw _ (List.mem_of_getElem? (i := 15) rfl))) (by decide) (t := .long) (t' := .long) (by decide) (by decide)))) (E_r0.wr W3) (Or.inr ⟨(hw _ (List.mem_of_getElem? (i := 17) rfl)), rfl, hnm⟩) (hw _ (List.mem_of_getElem? (i := 3) rfl)) (ty := .long) (by decide) rfl rfl (g := (mkF m 18 #[.val (.ref r0), .val (.long q1), .second, .val (.long q2), .second, .val (.long q3), .second, .val (.long (own_g q1 q2)), .second, .unset] [(.long q2), (.ref r0)])) rfl rfl (hb hby d1_18)
  have Fw4 := (F_r0_periodMillis.other W3 (Or.inr (slot_ne (Or.inr (hw _ (List.mem_of_getElem? (i := 17) rfl))) (Or.inr (hw _ (List.mem_of_getElem? (i := 15) rfl))) (by decide) (t := .long) (t' := .long) (by decide) (by decide)))).same W4
  have N4 := Fr.snoc X4 N3 g_r0
  have Z4 := Nat.le_trans Z3 (Keep.of_wr W4).1
  have K4 := Keep.wr K3 W4 (Or.inl (List.mem_of_getElem? (i := 0) rfl))
  refine Goes.go st4 ?_
  show Goes p e below s _ _ _ (T4.setTop (mkF m 21 #[.val (.ref r0), .val (.long q1), .second, .val (.long q2), .second, .val (.long q3), .second, .val (.long (own_g q1 q2)), .second, .unset] []))
  refine Goes.go (fun _ k => XS.aloadN X4.here hx rfl (hb hby d1_21) rfl rfl  k) ?_
  show Goes p e below s _ _ _ (T4.setTop (mkF m 22 #[.val (.ref r0), .val (.long q1), .second, .val (.long q2), .second, .val (.long q3), .second, .val (.long (own_g q1 q2)), .second, .unset] [(.ref r0)]))
  refine Goes.go (fun _ k => XS.lload X4.here hx rfl (hb hby d1_22) rfl  k) ?_
  show Goes p e below s _ _ _ (T4.setTop (mkF m 24 #[.val (.ref r0), .val (.long q1), .second, .val (.long q2), .second, .val (.long q3), .second, .val (.long (own_g q1 q2)), .second, .unset] [(.long q3), (.ref r0)]))
  obtain ⟨T5, h5, X5, e5, W5, st5⟩ := putF X4 hx hZ hown (host := "") (Or.inl (hw _ (List.mem_of_getElem? (i := 18) rfl))) Via.refl e4 ((F_r0_burst.other W3 (Or.inr (slot_ne (Or.inr (hw _ (List.mem_of_getElem? (i := 19) rfl))) (Or.inr (hw _ (List.mem_of_getElem? (i := 15) rfl))) (by decide) (t := .long) (t' := .long) (by decide) (by decide)))).other W4 (Or.inr (slot_ne (Or.inr (hw _ (List.mem_of_getElem? (i := 19) rfl))) (Or.inr (hw _ (List.mem_of_getElem? (i := 17) rfl))) (by decide) (t := .long) (t' := .long) (by decide) (by decide)))) ((E_r0.wr W3).wr W4) (Or.inr ⟨(hw _ (List.mem_of_getElem? (i := 19) rfl)), rfl, hnm⟩) (hw _ (List.mem_of_getElem? (i := 3) rfl)) (ty := .long) (by decide) rfl rfl (g := (mkF m 24 #[.val (.ref r0), .val (.long q1), .second, .val (.long q2), .second, .val (.long q3), .second, .val (.long (own_g q1 q2)), .second, .unset] [(.long q3), (.ref r0)])) rfl rfl (hb hby d1_24)
  have Fw5 := ((F_r0_burst.other W3 (Or.inr (slot_ne (Or.inr (hw _ (List.mem_of_getElem? (i := 19) rfl))) (Or.inr (hw _ (List.mem_of_getElem? (i := 15) rfl))) (by decide) (t := .long) (t' := .long) (by decide) (by decide)))).other W4 (Or.inr (slot_ne (Or.inr (hw _ (List.mem_of_getElem? (i := 19) rfl))) (Or.inr (hw _ (List.mem_of_getElem? (i := 17) rfl))) (by decide) (t := .long) (t' := .long) (by decide) (by decide)))).same W5
  have N5 := Fr.snoc X5 N4 g_r0
  have Z5 := Nat.le_trans Z4 (Keep.of_wr W5).1
  have K5 := Keep.wr K4 W5 (Or.inl (List.mem_of_getElem? (i := 0) rfl))
  refine Goes.go st5 ?_
  show Goes p e below s _ _ _ (T5.setTop (mkF m 27 #[.val (.ref r0), .val (.long q1), .second, .val (.long q2), .second, .val (.long q3), .second, .val (.long (own_g q1 q2)), .second, .unset] []))
  refine Goes.go (fun _ k => XS.aloadN X5.here hx rfl (hb hby d1_27) rfl rfl  k) ?_
  show Goes p e below s _ _ _ (T5.setTop (mkF m 28 #[.val (.ref r0), .val (.long q1), .second, .val (.long q2), .second, .val (.long q3), .second, .val (.long (own_g q1 q2)), .second, .unset] [(.ref r0)]))
  refine Goes.go (fun _ k => XS.lloadN X5.here hx rfl (hb hby d1_28) rfl  k) ?_
  show Goes p e below s _ _ _ (T5.setTop (mkF m 29 #[.val (.ref r0), .val (.long q1), .second, .val (.long q2), .second, .val (.long q3), .second, .val (.long (own_g q1 q2)), .second, .unset] [(.long q2), (.ref r0)]))
  refine Goes.go (fun _ k => XS.lload X5.here hx rfl (hb hby d1_29) rfl  k) ?_
  show Goes p e below s _ _ _ (T5.setTop (mkF m 31 #[.val (.ref r0), .val (.long q1), .second, .val (.long q2), .second, .val (.long q3), .second, .val (.long (own_g q1 q2)), .second, .unset] [(.long (own_g q1 q2)), (.long q2), (.ref r0)]))
  refine Goes.go (fun _ k => XS.ldiv X5.here hx rfl (hb hby d1_31) rfl hg0 k) ?_
  have hpt : (q2 / (own_g q1 q2)).toInt = q2.toInt / (own_g q1 q2).toInt := own_divN (by omega) hg
  have hpt1 : 1 ≤ q2.toInt / (own_g q1 q2).toInt := (Int.le_ediv_iff_mul_le hg).mpr (by have := own_gle2 hP1 hP2; omega)
  have hpt0 : 0 < (q2 / (own_g q1 q2)).toInt := by omega
  have hpt2 : q2.toInt / (own_g q1 q2).toInt ≤ q2.toInt := Int.ediv_le_self _ (by omega)
  have hcap0 : q3.toInt * (q2 / (own_g q1 q2)).toInt < 2 ^ 63 := by
    have := Int.mul_le_mul_of_nonneg_left hpt2 (show 0 ≤ q3.toInt by omega)
    rw [hpt]; omega
  have hpm : (q1 / (own_g q1 q2)).toInt = q1.toInt / (own_g q1 q2).toInt := own_divN (by omega) hg
  have hpm1 : 1 ≤ q1.toInt / (own_g q1 q2).toInt := (Int.le_ediv_iff_mul_le hg).mpr (by have := own_gle1 (y := q2) hP1; omega)
  have hpm0 : (q1 / (own_g q1 q2)) ≠ 0 := own_nz (by omega)
  show Goes p e below s _ _ _ (T5.setTop (mkF m 32 #[.val (.ref r0), .val (.long q1), .second, .val (.long q2), .second, .val (.long q3), .second, .val (.long (own_g q1 q2)), .second, .unset] [(.long (q2 / (own_g q1 q2))), (.ref r0)]))
  obtain ⟨T6, h6, X6, e6, W6, st6⟩ := putF X5 hx hZ hown (host := "") (Or.inl (hw _ (List.mem_of_getElem? (i := 20) rfl))) Via.refl e5 (((F_r0_perToken.other W3 (Or.inr (slot_ne (Or.inr (hw _ (List.mem_of_getElem? (i := 21) rfl))) (Or.inr (hw _ (List.mem_of_getElem? (i := 15) rfl))) (by decide) (t := .long) (t' := .long) (by decide) (by decide)))).other W4 (Or.inr (slot_ne (Or.inr (hw _ (List.mem_of_getElem? (i := 21) rfl))) (Or.inr (hw _ (List.mem_of_getElem? (i := 17) rfl))) (by decide) (t := .long) (t' := .long) (by decide) (by decide)))).other W5 (Or.inr (slot_ne (Or.inr (hw _ (List.mem_of_getElem? (i := 21) rfl))) (Or.inr (hw _ (List.mem_of_getElem? (i := 19) rfl))) (by decide) (t := .long) (t' := .long) (by decide) (by decide)))) (((E_r0.wr W3).wr W4).wr W5) (Or.inr ⟨(hw _ (List.mem_of_getElem? (i := 21) rfl)), rfl, hnm⟩) (hw _ (List.mem_of_getElem? (i := 3) rfl)) (ty := .long) (by decide) rfl rfl (g := (mkF m 32 #[.val (.ref r0), .val (.long q1), .second, .val (.long q2), .second, .val (.long q3), .second, .val (.long (own_g q1 q2)), .second, .unset] [(.long (q2 / (own_g q1 q2))), (.ref r0)])) rfl rfl (hb hby d1_32)
  have Fw6 := (((F_r0_perToken.other W3 (Or.inr (slot_ne (Or.inr (hw _ (List.mem_of_getElem? (i := 21) rfl))) (Or.inr (hw _ (List.mem_of_getElem? (i := 15) rfl))) (by decide) (t := .long) (t' := .long) (by decide) (by decide)))).other W4 (Or.inr (slot_ne (Or.inr (hw _ (List.mem_of_getElem? (i := 21) rfl))) (Or.inr (hw _ (List.mem_of_getElem? (i := 17) rfl))) (by decide) (t := .long) (t' := .long) (by decide) (by decide)))).other W5 (Or.inr (slot_ne (Or.inr (hw _ (List.mem_of_getElem? (i := 21) rfl))) (Or.inr (hw _ (List.mem_of_getElem? (i := 19) rfl))) (by decide) (t := .long) (t' := .long) (by decide) (by decide)))).same W6
  have N6 := Fr.snoc X6 N5 g_r0
  have Z6 := Nat.le_trans Z5 (Keep.of_wr W6).1
  have K6 := Keep.wr K5 W6 (Or.inl (List.mem_of_getElem? (i := 0) rfl))
  refine Goes.go st6 ?_
  show Goes p e below s _ _ _ (T6.setTop (mkF m 35 #[.val (.ref r0), .val (.long q1), .second, .val (.long q2), .second, .val (.long q3), .second, .val (.long (own_g q1 q2)), .second, .unset] []))
  refine Goes.go (fun _ k => XS.aloadN X6.here hx rfl (hb hby d1_35) rfl rfl  k) ?_
  show Goes p e below s _ _ _ (T6.setTop (mkF m 36 #[.val (.ref r0), .val (.long q1), .second, .val (.long q2), .second, .val (.long q3), .second, .val (.long (own_g q1 q2)), .second, .unset] [(.ref r0)]))
  refine Goes.go (fun _ k => XS.lloadN X6.here hx rfl (hb hby d1_36) rfl  k) ?_
  show Goes p e below s _ _ _ (T6.setTop (mkF m 37 #[.val (.ref r0), .val (.long q1), .second, .val (.long q2), .second, .val (.long q3), .second, .val (.long (own_g q1 q2)), .second, .unset] [(.long q1), (.ref r0)]))
  refine Goes.go (fun _ k => XS.lload X6.here hx rfl (hb hby d1_37) rfl  k) ?_
  show Goes p e below s _ _ _ (T6.setTop (mkF m 39 #[.val (.ref r0), .val (.long q1), .second, .val (.long q2), .second, .val (.long q3), .second, .val (.long (own_g q1 q2)), .second, .unset] [(.long (own_g q1 q2)), (.long q1), (.ref r0)]))
  refine Goes.go (fun _ k => XS.ldiv X6.here hx rfl (hb hby d1_39) rfl hg0 k) ?_
  show Goes p e below s _ _ _ (T6.setTop (mkF m 40 #[.val (.ref r0), .val (.long q1), .second, .val (.long q2), .second, .val (.long q3), .second, .val (.long (own_g q1 q2)), .second, .unset] [(.long (q1 / (own_g q1 q2))), (.ref r0)]))
  obtain ⟨T7, h7, X7, e7, W7, st7⟩ := putF X6 hx hZ hown (host := "") (Or.inl (hw _ (List.mem_of_getElem? (i := 22) rfl))) Via.refl e6 ((((F_r0_perMilli.other W3 (Or.inr (slot_ne (Or.inr (hw _ (List.mem_of_getElem? (i := 23) rfl))) (Or.inr (hw _ (List.mem_of_getElem? (i := 15) rfl))) (by decide) (t := .long) (t' := .long) (by decide) (by decide)))).other W4 (Or.inr (slot_ne (Or.inr (hw _ (List.mem_of_getElem? (i := 23) rfl))) (Or.inr (hw _ (List.mem_of_getElem? (i := 17) rfl))) (by decide) (t := .long) (t' := .long) (by decide) (by decide)))).other W5 (Or.inr (slot_ne (Or.inr (hw _ (List.mem_of_getElem? (i := 23) rfl))) (Or.inr (hw _ (List.mem_of_getElem? (i := 19) rfl))) (by decide) (t := .long) (t' := .long) (by decide) (by decide)))).other W6 (Or.inr (slot_ne (Or.inr (hw _ (List.mem_of_getElem? (i := 23) rfl))) (Or.inr (hw _ (List.mem_of_getElem? (i := 21) rfl))) (by decide) (t := .long) (t' := .long) (by decide) (by decide)))) ((((E_r0.wr W3).wr W4).wr W5).wr W6) (Or.inr ⟨(hw _ (List.mem_of_getElem? (i := 23) rfl)), rfl, hnm⟩) (hw _ (List.mem_of_getElem? (i := 3) rfl)) (ty := .long) (by decide) rfl rfl (g := (mkF m 40 #[.val (.ref r0), .val (.long q1), .second, .val (.long q2), .second, .val (.long q3), .second, .val (.long (own_g q1 q2)), .second, .unset] [(.long (q1 / (own_g q1 q2))), (.ref r0)])) rfl rfl (hb hby d1_40)
  have Fw7 := ((((F_r0_perMilli.other W3 (Or.inr (slot_ne (Or.inr (hw _ (List.mem_of_getElem? (i := 23) rfl))) (Or.inr (hw _ (List.mem_of_getElem? (i := 15) rfl))) (by decide) (t := .long) (t' := .long) (by decide) (by decide)))).other W4 (Or.inr (slot_ne (Or.inr (hw _ (List.mem_of_getElem? (i := 23) rfl))) (Or.inr (hw _ (List.mem_of_getElem? (i := 17) rfl))) (by decide) (t := .long) (t' := .long) (by decide) (by decide)))).other W5 (Or.inr (slot_ne (Or.inr (hw _ (List.mem_of_getElem? (i := 23) rfl))) (Or.inr (hw _ (List.mem_of_getElem? (i := 19) rfl))) (by decide) (t := .long) (t' := .long) (by decide) (by decide)))).other W6 (Or.inr (slot_ne (Or.inr (hw _ (List.mem_of_getElem? (i := 23) rfl))) (Or.inr (hw _ (List.mem_of_getElem? (i := 21) rfl))) (by decide) (t := .long) (t' := .long) (by decide) (by decide)))).same W7
  have N7 := Fr.snoc X7 N6 g_r0
  have Z7 := Nat.le_trans Z6 (Keep.of_wr W7).1
  have K7 := Keep.wr K6 W7 (Or.inl (List.mem_of_getElem? (i := 0) rfl))
  refine Goes.go st7 ?_
  show Goes p e below s _ _ _ (T7.setTop (mkF m 43 #[.val (.ref r0), .val (.long q1), .second, .val (.long q2), .second, .val (.long q3), .second, .val (.long (own_g q1 q2)), .second, .unset] []))
  refine Goes.go (fun _ k => XS.aloadN X7.here hx rfl (hb hby d1_43) rfl rfl  k) ?_
  show Goes p e below s _ _ _ (T7.setTop (mkF m 44 #[.val (.ref r0), .val (.long q1), .second, .val (.long q2), .second, .val (.long q3), .second, .val (.long (own_g q1 q2)), .second, .unset] [(.ref r0)]))
  refine Goes.go (fun _ k => XS.lload X7.here hx rfl (hb hby d1_44) rfl  k) ?_
  show Goes p e below s _ _ _ (T7.setTop (mkF m 46 #[.val (.ref r0), .val (.long q1), .second, .val (.long q2), .second, .val (.long q3), .second, .val (.long (own_g q1 q2)), .second, .unset] [(.long q3), (.ref r0)]))
  refine Goes.go (fun _ k => XS.aloadN X7.here hx rfl (hb hby d1_46) rfl rfl  k) ?_
  show Goes p e below s _ _ _ (T7.setTop (mkF m 47 #[.val (.ref r0), .val (.long q1), .second, .val (.long q2), .second, .val (.long q3), .second, .val (.long (own_g q1 q2)), .second, .unset] [(.ref r0), (.long q3), (.ref r0)]))
  obtain ⟨T8, X8, e8, st8⟩ := getF X7 hx hZ hown (host := "") (Or.inl (hw _ (List.mem_of_getElem? (i := 20) rfl))) Via.refl e7 (Fw6.other W7 (Or.inr (slot_ne (Or.inr (hw _ (List.mem_of_getElem? (i := 21) rfl))) (Or.inr (hw _ (List.mem_of_getElem? (i := 23) rfl))) (by decide) (t := .long) (t' := .long) (by decide) (by decide)))) (g := (mkF m 47 #[.val (.ref r0), .val (.long q1), .second, .val (.long q2), .second, .val (.long q3), .second, .val (.long (own_g q1 q2)), .second, .unset] [(.ref r0), (.long q3), (.ref r0)])) rfl rfl (hb hby d1_47)
  refine Goes.go st8 ?_
  show Goes p e below s _ _ _ (T8.setTop (mkF m 50 #[.val (.ref r0), .val (.long q1), .second, .val (.long q2), .second, .val (.long q3), .second, .val (.long (own_g q1 q2)), .second, .unset] [(.long (q2 / (own_g q1 q2))), (.long q3), (.ref r0)]))
  obtain ⟨_, _, ⟨T9, L9, k9, n9⟩, -, X9, ⟨Lc9, hQ9, l9, y9, z9⟩, st9⟩ := Jvm.LawKit.callS X8 hx (y := (⟨"java/lang/Math", "multiplyExact", "(JJ)J"⟩ : MethodName)) hown (mvT hZ (hw _ (List.mem_of_getElem? (i := 24) rfl))) (mvT hZ (hw _ (List.mem_of_getElem? (i := 25) rfl))) (mvT hZ (hw _ (List.mem_of_getElem? (i := 26) rfl))) (mvT hZ (hw _ (List.mem_of_getElem? (i := 27) rfl))) (by decide) (backOf (W := 1) (rm4 l Z a0 hw [] q3 (q2 / (own_g q1 q2)) h7 n0 Z7 hP3 hpt0 hcap0) hZ (hw _ (List.mem_of_getElem? (i := 27) rfl)) (hw _ (List.mem_of_getElem? (i := 26) rfl)) (by decide) (by decide)) (g := (mkF m 50 #[.val (.ref r0), .val (.long q1), .second, .val (.long q2), .second, .val (.long q3), .second, .val (.long (own_g q1 q2)), .second, .unset] [(.long (q2 / (own_g q1 q2))), (.long q3), (.ref r0)])) rfl (by rw [hml]; rfl) (argsL := [(.long q3), (.long (q2 / (own_g q1 q2)))]) (rest := [(.ref r0)]) (lenOf pd_1 rfl) rfl (by show 2 * 0 + _ ≤ _; exact Nat.le_of_eq rfl) (hb hby d1_50) (fun _ _ => ⟨rfl, e8, (by decide : 0 + 0 ≤ _), (by decide : 0 + 0 ≤ _)⟩)
  dsimp only [Pt.U, Pt.locs, Pt.cells, Pt.slots] at X9 l9 y9 z9 st9 hQ9
  subst l9 y9 z9
  obtain ⟨rfl, N9q, e9⟩ := hQ9
  have N9 := Fr.app N7 N9q
  refine Goes.go st9 ?_
  rw [own_f5]
  show Goes p e below s _ _ _ (T9.setTop (mkF m 53 #[.val (.ref r0), .val (.long q1), .second, .val (.long q2), .second, .val (.long q3), .second, .val (.long (own_g q1 q2)), .second, .unset] [(.long (q3 * (q2 / (own_g q1 q2)))), (.ref r0)]))
  obtain ⟨T10, h10, X10, e10, W10, st10⟩ := putF X9 hx hZ hown (host := "") (Or.inl (hw _ (List.mem_of_getElem? (i := 31) rfl))) Via.refl e9 (((((F_r0_capacity.other W3 (Or.inr (slot_ne (Or.inr (hw _ (List.mem_of_getElem? (i := 32) rfl))) (Or.inr (hw _ (List.mem_of_getElem? (i := 15) rfl))) (by decide) (t := .long) (t' := .long) (by decide) (by decide)))).other W4 (Or.inr (slot_ne (Or.inr (hw _ (List.mem_of_getElem? (i := 32) rfl))) (Or.inr (hw _ (List.mem_of_getElem? (i := 17) rfl))) (by decide) (t := .long) (t' := .long) (by decide) (by decide)))).other W5 (Or.inr (slot_ne (Or.inr (hw _ (List.mem_of_getElem? (i := 32) rfl))) (Or.inr (hw _ (List.mem_of_getElem? (i := 19) rfl))) (by decide) (t := .long) (t' := .long) (by decide) (by decide)))).other W6 (Or.inr (slot_ne (Or.inr (hw _ (List.mem_of_getElem? (i := 32) rfl))) (Or.inr (hw _ (List.mem_of_getElem? (i := 21) rfl))) (by decide) (t := .long) (t' := .long) (by decide) (by decide)))).other W7 (Or.inr (slot_ne (Or.inr (hw _ (List.mem_of_getElem? (i := 32) rfl))) (Or.inr (hw _ (List.mem_of_getElem? (i := 23) rfl))) (by decide) (t := .long) (t' := .long) (by decide) (by decide)))) (((((E_r0.wr W3).wr W4).wr W5).wr W6).wr W7) (Or.inr ⟨(hw _ (List.mem_of_getElem? (i := 32) rfl)), rfl, hnm⟩) (hw _ (List.mem_of_getElem? (i := 3) rfl)) (ty := .long) (by decide) rfl rfl (g := (mkF m 53 #[.val (.ref r0), .val (.long q1), .second, .val (.long q2), .second, .val (.long q3), .second, .val (.long (own_g q1 q2)), .second, .unset] [(.long (q3 * (q2 / (own_g q1 q2)))), (.ref r0)])) rfl rfl (hb hby d1_53)
  have Fw10 := (((((F_r0_capacity.other W3 (Or.inr (slot_ne (Or.inr (hw _ (List.mem_of_getElem? (i := 32) rfl))) (Or.inr (hw _ (List.mem_of_getElem? (i := 15) rfl))) (by decide) (t := .long) (t' := .long) (by decide) (by decide)))).other W4 (Or.inr (slot_ne (Or.inr (hw _ (List.mem_of_getElem? (i := 32) rfl))) (Or.inr (hw _ (List.mem_of_getElem? (i := 17) rfl))) (by decide) (t := .long) (t' := .long) (by decide) (by decide)))).other W5 (Or.inr (slot_ne (Or.inr (hw _ (List.mem_of_getElem? (i := 32) rfl))) (Or.inr (hw _ (List.mem_of_getElem? (i := 19) rfl))) (by decide) (t := .long) (t' := .long) (by decide) (by decide)))).other W6 (Or.inr (slot_ne (Or.inr (hw _ (List.mem_of_getElem? (i := 32) rfl))) (Or.inr (hw _ (List.mem_of_getElem? (i := 21) rfl))) (by decide) (t := .long) (t' := .long) (by decide) (by decide)))).other W7 (Or.inr (slot_ne (Or.inr (hw _ (List.mem_of_getElem? (i := 32) rfl))) (Or.inr (hw _ (List.mem_of_getElem? (i := 23) rfl))) (by decide) (t := .long) (t' := .long) (by decide) (by decide)))).same W10
  have N10 := Fr.snoc X10 N9 g_r0
  have Z10 := Nat.le_trans Z7 (Keep.of_wr W10).1
  have K10 := Keep.wr K7 W10 (Or.inl (List.mem_of_getElem? (i := 0) rfl))
  refine Goes.go st10 ?_
  show Goes p e below s _ _ _ (T10.setTop (mkF m 56 #[.val (.ref r0), .val (.long q1), .second, .val (.long q2), .second, .val (.long q3), .second, .val (.long (own_g q1 q2)), .second, .unset] []))
  refine Goes.go (fun _ k => XS.goto X10.here hx rfl (pc0 := 56) (pc' := 78) rfl (hb hby d1_56) (by decide) (by decide) k) ?_
  show Goes p e below s _ _ _ (T10.setTop (mkF m 78 #[.val (.ref r0), .val (.long q1), .second, .val (.long q2), .second, .val (.long q3), .second, .val (.long (own_g q1 q2)), .second, .unset] []))
  refine Goes.go (fun _ k => XS.aloadN X10.here hx rfl (hb hby d1_78) rfl rfl  k) ?_
  show Goes p e below s _ _ _ (T10.setTop (mkF m 79 #[.val (.ref r0), .val (.long q1), .second, .val (.long q2), .second, .val (.long q3), .second, .val (.long (own_g q1 q2)), .second, .unset] [(.ref r0)]))
  refine Goes.go (fun _ k => XS.aloadN X10.here hx rfl (hb hby d1_79) rfl rfl  k) ?_
  show Goes p e below s _ _ _ (T10.setTop (mkF m 80 #[.val (.ref r0), .val (.long q1), .second, .val (.long q2), .second, .val (.long q3), .second, .val (.long (own_g q1 q2)), .second, .unset] [(.ref r0), (.ref r0)]))
  obtain ⟨T11, X11, e11, st11⟩ := getF X10 hx hZ hown (host := "") (Or.inl (hw _ (List.mem_of_getElem? (i := 31) rfl))) Via.refl e10 Fw10 (g := (mkF m 80 #[.val (.ref r0), .val (.long q1), .second, .val (.long q2), .second, .val (.long q3), .second, .val (.long (own_g q1 q2)), .second, .unset] [(.ref r0), (.ref r0)])) rfl rfl (hb hby d1_80)
  refine Goes.go st11 ?_
  show Goes p e below s _ _ _ (T11.setTop (mkF m 83 #[.val (.ref r0), .val (.long q1), .second, .val (.long q2), .second, .val (.long q3), .second, .val (.long (own_g q1 q2)), .second, .unset] [(.long (q3 * (q2 / (own_g q1 q2)))), (.ref r0)]))
  refine Goes.go (fun _ k => XS.aloadN X11.here hx rfl (hb hby d1_83) rfl rfl  k) ?_
  show Goes p e below s _ _ _ (T11.setTop (mkF m 84 #[.val (.ref r0), .val (.long q1), .second, .val (.long q2), .second, .val (.long q3), .second, .val (.long (own_g q1 q2)), .second, .unset] [(.ref r0), (.long (q3 * (q2 / (own_g q1 q2)))), (.ref r0)]))
  obtain ⟨T12, X12, e12, st12⟩ := getF X11 hx hZ hown (host := "") (Or.inl (hw _ (List.mem_of_getElem? (i := 22) rfl))) Via.refl e11 (Fw7.other W10 (Or.inr (slot_ne (Or.inr (hw _ (List.mem_of_getElem? (i := 23) rfl))) (Or.inr (hw _ (List.mem_of_getElem? (i := 32) rfl))) (by decide) (t := .long) (t' := .long) (by decide) (by decide)))) (g := (mkF m 84 #[.val (.ref r0), .val (.long q1), .second, .val (.long q2), .second, .val (.long q3), .second, .val (.long (own_g q1 q2)), .second, .unset] [(.ref r0), (.long (q3 * (q2 / (own_g q1 q2)))), (.ref r0)])) rfl rfl (hb hby d1_84)
  refine Goes.go st12 ?_
  show Goes p e below s _ _ _ (T12.setTop (mkF m 87 #[.val (.ref r0), .val (.long q1), .second, .val (.long q2), .second, .val (.long q3), .second, .val (.long (own_g q1 q2)), .second, .unset] [(.long (q1 / (own_g q1 q2))), (.long (q3 * (q2 / (own_g q1 q2)))), (.ref r0)]))
  refine Goes.go (fun _ k => XS.ldiv X12.here hx rfl (hb hby d1_87) rfl hpm0 k) ?_
  show Goes p e below s _ _ _ (T12.setTop (mkF m 88 #[.val (.ref r0), .val (.long q1), .second, .val (.long q2), .second, .val (.long q3), .second, .val (.long (own_g q1 q2)), .second, .unset] [(.long ((q3 * (q2 / (own_g q1 q2))) / (q1 / (own_g q1 q2)))), (.ref r0)]))
  obtain ⟨T13, h13, X13, e13, W13, st13⟩ := putF X12 hx hZ hown (host := "") (Or.inl (hw _ (List.mem_of_getElem? (i := 33) rfl))) Via.refl e12 ((((((F_r0_fillMillis.other W3 (Or.inr (slot_ne (Or.inr (hw _ (List.mem_of_getElem? (i := 34) rfl))) (Or.inr (hw _ (List.mem_of_getElem? (i := 15) rfl))) (by decide) (t := .long) (t' := .long) (by decide) (by decide)))).other W4 (Or.inr (slot_ne (Or.inr (hw _ (List.mem_of_getElem? (i := 34) rfl))) (Or.inr (hw _ (List.mem_of_getElem? (i := 17) rfl))) (by decide) (t := .long) (t' := .long) (by decide) (by decide)))).other W5 (Or.inr (slot_ne (Or.inr (hw _ (List.mem_of_getElem? (i := 34) rfl))) (Or.inr (hw _ (List.mem_of_getElem? (i := 19) rfl))) (by decide) (t := .long) (t' := .long) (by decide) (by decide)))).other W6 (Or.inr (slot_ne (Or.inr (hw _ (List.mem_of_getElem? (i := 34) rfl))) (Or.inr (hw _ (List.mem_of_getElem? (i := 21) rfl))) (by decide) (t := .long) (t' := .long) (by decide) (by decide)))).other W7 (Or.inr (slot_ne (Or.inr (hw _ (List.mem_of_getElem? (i := 34) rfl))) (Or.inr (hw _ (List.mem_of_getElem? (i := 23) rfl))) (by decide) (t := .long) (t' := .long) (by decide) (by decide)))).other W10 (Or.inr (slot_ne (Or.inr (hw _ (List.mem_of_getElem? (i := 34) rfl))) (Or.inr (hw _ (List.mem_of_getElem? (i := 32) rfl))) (by decide) (t := .long) (t' := .long) (by decide) (by decide)))) ((((((E_r0.wr W3).wr W4).wr W5).wr W6).wr W7).wr W10) (Or.inr ⟨(hw _ (List.mem_of_getElem? (i := 34) rfl)), rfl, hnm⟩) (hw _ (List.mem_of_getElem? (i := 3) rfl)) (ty := .long) (by decide) rfl rfl (g := (mkF m 88 #[.val (.ref r0), .val (.long q1), .second, .val (.long q2), .second, .val (.long q3), .second, .val (.long (own_g q1 q2)), .second, .unset] [(.long ((q3 * (q2 / (own_g q1 q2))) / (q1 / (own_g q1 q2)))), (.ref r0)])) rfl rfl (hb hby d1_88)
  have Fw13 := ((((((F_r0_fillMillis.other W3 (Or.inr (slot_ne (Or.inr (hw _ (List.mem_of_getElem? (i := 34) rfl))) (Or.inr (hw _ (List.mem_of_getElem? (i := 15) rfl))) (by decide) (t := .long) (t' := .long) (by decide) (by decide)))).other W4 (Or.inr (slot_ne (Or.inr (hw _ (List.mem_of_getElem? (i := 34) rfl))) (Or.inr (hw _ (List.mem_of_getElem? (i := 17) rfl))) (by decide) (t := .long) (t' := .long) (by decide) (by decide)))).other W5 (Or.inr (slot_ne (Or.inr (hw _ (List.mem_of_getElem? (i := 34) rfl))) (Or.inr (hw _ (List.mem_of_getElem? (i := 19) rfl))) (by decide) (t := .long) (t' := .long) (by decide) (by decide)))).other W6 (Or.inr (slot_ne (Or.inr (hw _ (List.mem_of_getElem? (i := 34) rfl))) (Or.inr (hw _ (List.mem_of_getElem? (i := 21) rfl))) (by decide) (t := .long) (t' := .long) (by decide) (by decide)))).other W7 (Or.inr (slot_ne (Or.inr (hw _ (List.mem_of_getElem? (i := 34) rfl))) (Or.inr (hw _ (List.mem_of_getElem? (i := 23) rfl))) (by decide) (t := .long) (t' := .long) (by decide) (by decide)))).other W10 (Or.inr (slot_ne (Or.inr (hw _ (List.mem_of_getElem? (i := 34) rfl))) (Or.inr (hw _ (List.mem_of_getElem? (i := 32) rfl))) (by decide) (t := .long) (t' := .long) (by decide) (by decide)))).same W13
  have N13 := Fr.snoc X13 N10 g_r0
  have Z13 := Nat.le_trans Z10 (Keep.of_wr W13).1
  have K13 := Keep.wr K10 W13 (Or.inl (List.mem_of_getElem? (i := 0) rfl))
  refine Goes.go st13 ?_
  show Goes p e below s _ _ _ (T13.setTop (mkF m 91 #[.val (.ref r0), .val (.long q1), .second, .val (.long q2), .second, .val (.long q3), .second, .val (.long (own_g q1 q2)), .second, .unset] []))
  refine Goes.ret0 X13 hx hlk Bd.returns (hb hby d1_91) ?_ (by decide) (by decide)
  exact (show Q_rm1 Z r0 q1 q2 q3 h0 n0 _ T13.heap _ by rw [e13]; exact ⟨rfl, N13, K13, (((((((E_r0.wr W3).wr W4).wr W5).wr W6).wr W7).wr W10).wr W13), ((((((Fw3.other W4 (Or.inr (slot_ne (Or.inr (hw _ (List.mem_of_getElem? (i := 15) rfl))) (Or.inr (hw _ (List.mem_of_getElem? (i := 17) rfl))) (by decide) (t := .long) (t' := .long) (by decide) (by decide)))).other W5 (Or.inr (slot_ne (Or.inr (hw _ (List.mem_of_getElem? (i := 15) rfl))) (Or.inr (hw _ (List.mem_of_getElem? (i := 19) rfl))) (by decide) (t := .long) (t' := .long) (by decide) (by decide)))).other W6 (Or.inr (slot_ne (Or.inr (hw _ (List.mem_of_getElem? (i := 15) rfl))) (Or.inr (hw _ (List.mem_of_getElem? (i := 21) rfl))) (by decide) (t := .long) (t' := .long) (by decide) (by decide)))).other W7 (Or.inr (slot_ne (Or.inr (hw _ (List.mem_of_getElem? (i := 15) rfl))) (Or.inr (hw _ (List.mem_of_getElem? (i := 23) rfl))) (by decide) (t := .long) (t' := .long) (by decide) (by decide)))).other W10 (Or.inr (slot_ne (Or.inr (hw _ (List.mem_of_getElem? (i := 15) rfl))) (Or.inr (hw _ (List.mem_of_getElem? (i := 32) rfl))) (by decide) (t := .long) (t' := .long) (by decide) (by decide)))).other W13 (Or.inr (slot_ne (Or.inr (hw _ (List.mem_of_getElem? (i := 15) rfl))) (Or.inr (hw _ (List.mem_of_getElem? (i := 34) rfl))) (by decide) (t := .long) (t' := .long) (by decide) (by decide)))), (((((Fw4.other W5 (Or.inr (slot_ne (Or.inr (hw _ (List.mem_of_getElem? (i := 17) rfl))) (Or.inr (hw _ (List.mem_of_getElem? (i := 19) rfl))) (by decide) (t := .long) (t' := .long) (by decide) (by decide)))).other W6 (Or.inr (slot_ne (Or.inr (hw _ (List.mem_of_getElem? (i := 17) rfl))) (Or.inr (hw _ (List.mem_of_getElem? (i := 21) rfl))) (by decide) (t := .long) (t' := .long) (by decide) (by decide)))).other W7 (Or.inr (slot_ne (Or.inr (hw _ (List.mem_of_getElem? (i := 17) rfl))) (Or.inr (hw _ (List.mem_of_getElem? (i := 23) rfl))) (by decide) (t := .long) (t' := .long) (by decide) (by decide)))).other W10 (Or.inr (slot_ne (Or.inr (hw _ (List.mem_of_getElem? (i := 17) rfl))) (Or.inr (hw _ (List.mem_of_getElem? (i := 32) rfl))) (by decide) (t := .long) (t' := .long) (by decide) (by decide)))).other W13 (Or.inr (slot_ne (Or.inr (hw _ (List.mem_of_getElem? (i := 17) rfl))) (Or.inr (hw _ (List.mem_of_getElem? (i := 34) rfl))) (by decide) (t := .long) (t' := .long) (by decide) (by decide)))), ((((Fw5.other W6 (Or.inr (slot_ne (Or.inr (hw _ (List.mem_of_getElem? (i := 19) rfl))) (Or.inr (hw _ (List.mem_of_getElem? (i := 21) rfl))) (by decide) (t := .long) (t' := .long) (by decide) (by decide)))).other W7 (Or.inr (slot_ne (Or.inr (hw _ (List.mem_of_getElem? (i := 19) rfl))) (Or.inr (hw _ (List.mem_of_getElem? (i := 23) rfl))) (by decide) (t := .long) (t' := .long) (by decide) (by decide)))).other W10 (Or.inr (slot_ne (Or.inr (hw _ (List.mem_of_getElem? (i := 19) rfl))) (Or.inr (hw _ (List.mem_of_getElem? (i := 32) rfl))) (by decide) (t := .long) (t' := .long) (by decide) (by decide)))).other W13 (Or.inr (slot_ne (Or.inr (hw _ (List.mem_of_getElem? (i := 19) rfl))) (Or.inr (hw _ (List.mem_of_getElem? (i := 34) rfl))) (by decide) (t := .long) (t' := .long) (by decide) (by decide)))), (((Fw6.other W7 (Or.inr (slot_ne (Or.inr (hw _ (List.mem_of_getElem? (i := 21) rfl))) (Or.inr (hw _ (List.mem_of_getElem? (i := 23) rfl))) (by decide) (t := .long) (t' := .long) (by decide) (by decide)))).other W10 (Or.inr (slot_ne (Or.inr (hw _ (List.mem_of_getElem? (i := 21) rfl))) (Or.inr (hw _ (List.mem_of_getElem? (i := 32) rfl))) (by decide) (t := .long) (t' := .long) (by decide) (by decide)))).other W13 (Or.inr (slot_ne (Or.inr (hw _ (List.mem_of_getElem? (i := 21) rfl))) (Or.inr (hw _ (List.mem_of_getElem? (i := 34) rfl))) (by decide) (t := .long) (t' := .long) (by decide) (by decide)))), ((Fw7.other W10 (Or.inr (slot_ne (Or.inr (hw _ (List.mem_of_getElem? (i := 23) rfl))) (Or.inr (hw _ (List.mem_of_getElem? (i := 32) rfl))) (by decide) (t := .long) (t' := .long) (by decide) (by decide)))).other W13 (Or.inr (slot_ne (Or.inr (hw _ (List.mem_of_getElem? (i := 23) rfl))) (Or.inr (hw _ (List.mem_of_getElem? (i := 34) rfl))) (by decide) (t := .long) (t' := .long) (by decide) (by decide)))), (Fw10.other W13 (Or.inr (slot_ne (Or.inr (hw _ (List.mem_of_getElem? (i := 32) rfl))) (Or.inr (hw _ (List.mem_of_getElem? (i := 34) rfl))) (by decide) (t := .long) (t' := .long) (by decide) (by decide)))), Fw13⟩)
theorem d6_0 : decode prog_14_method_7_code 0 = .ok (.aload_n 0, 1) := by decide +kernel
theorem d6_1 : decode prog_14_method_7_code 1 = .ok (.getfield 34, 3) := by decide +kernel
theorem d6_4 : decode prog_14_method_7_code 4 = .ok (.lreturn, 1) := by decide +kernel
theorem pn_6 : plainName "com/example/danaid/danaid/TokenBucketUnits" = true := by first | (simp [plainName, overriddenIn]; done) | decide +kernel
theorem ef_rm6 (m : MethodId) (x0 : Addr) : entryFrame m #[(.ref x0)] 1 = mkF m 0 #[.val (.ref x0)] [] := by first | (simp [entryFrame, mkF, argsToLocals, Value.category]; done) | rfl
def f6 (r0 : Addr) (w_r0_capacity : Int64) : Int64 := w_r0_capacity
set_option maxRecDepth 65536 in
set_option maxHeartbeats 40000000 in
theorem rm6 (l : Launch) (Z : State) (a0 : Array Value) (hw : ∀ d ∈ tables_1, d.before a0 Z = true) (ws : List Jvm.Cond) (r0 : Addr) (w_r0_capacity : Int64) (h0 : Heap) (n0 : Nat) (Z0 : n0 ≤ h0.size) (F_r0_capacity : Fld Z h0 r0 "com/example/danaid/danaid/TokenBucketUnits" "capacity" "J" (.long w_r0_capacity)) :
    MetFree l (⟨"com/example/danaid/danaid/TokenBucketUnits", "capacity", "()J"⟩ : MethodName) (head1 (Jvm.Cond.code (⟨"com/example/danaid/danaid/TokenBucketUnits", "capacity", "()J"⟩ : MethodName) prog_14_method_7_code 1 (some .long) :: ws) ({ frames := 0, cells := 0, slots := 0, locals := 0 } : Room)) (fun a U => a = #[(.ref r0)] ∧ Z.Warmed39 U.vm ∧ U.heap = h0) (fun _ _ _ _ _ => True) (fun _ U o U' => ∃ v L, o = .returned v ∧ Qp (.long (f6 r0 w_r0_capacity)) h0 n0 v U'.heap L ∧ FrameEnd U o U' L ({ frames := 0, cells := 0, slots := 0, locals := 0 } : Room).cells ({ frames := 0, cells := 0, slots := 0, locals := 0 } : Room).slots) := by
  refine MetFree.of_bodySF (plainFor_of_name pn_6) hisR ?_
  intro p e s m args below meth c s₁ Bd hml0 hP hK
  obtain ⟨rfl, hZ, hh⟩ := hP
  have hx := Bd.exec
  have hby := Bd.bytes
  have hml : c.maxLocals = 1 := hml0
  have hown : s.vm.findClass "com/example/danaid/danaid/TokenBucketUnits" = some m.cls := findClass_of_methodNamed Bd.named
  have hnm := (name_of_methodNamed Bd.named Bd.method).1
  have hlk : meth.locks = false := BodyLoose.notSynchronized Bd
  have X0 : Stand p l e ({ frames := 0, cells := 0, slots := 0, locals := 0 } : Room) s m #[(.ref r0)] below meth c s₁ [] 0 0 := Stand.of_body Bd
  have e0 : s₁.heap = h0 := by rw [← hh, Bd.state]; rfl
  have N0 := Fr.nil n0
  have K0 : Keep h0 h0 [] := Keep.refl _ _
  show Goes p e below s (Qp (.long (f6 r0 w_r0_capacity)) h0 n0) ({ frames := 0, cells := 0, slots := 0, locals := 0 } : Room).cells ({ frames := 0, cells := 0, slots := 0, locals := 0 } : Room).slots (s₁.setTop (entryFrame m #[(.ref r0)] 1))
  rw [ef_rm6]
  show Goes p e below s _ _ _ (s₁.setTop (mkF m 0 #[.val (.ref r0)] []))
  refine Goes.go (fun _ k => XS.aloadN X0.here hx rfl (hb hby d6_0) rfl rfl  k) ?_
  show Goes p e below s _ _ _ (s₁.setTop (mkF m 1 #[.val (.ref r0)] [(.ref r0)]))
  obtain ⟨T1, X1, e1, st1⟩ := getF X0 hx hZ hown (host := "") (Or.inl (hw _ (List.mem_of_getElem? (i := 31) rfl))) Via.refl e0 F_r0_capacity (g := (mkF m 1 #[.val (.ref r0)] [(.ref r0)])) rfl rfl (hb hby d6_1)
  refine Goes.go st1 ?_
  show Goes p e below s _ _ _ (T1.setTop (mkF m 4 #[.val (.ref r0)] [(.long w_r0_capacity)]))
  refine Goes.retJ X1 hx hlk Bd.returns (hb hby d6_4) ?_ (by decide) (by decide)
  exact ⟨by rfl, N0, e1⟩
theorem d7_0 : decode prog_14_method_5_code 0 = .ok (.aload_n 0, 1) := by decide +kernel
theorem d7_1 : decode prog_14_method_5_code 1 = .ok (.getfield 23, 3) := by decide +kernel
theorem d7_4 : decode prog_14_method_5_code 4 = .ok (.lreturn, 1) := by decide +kernel
theorem pn_7 : plainName "com/example/danaid/danaid/TokenBucketUnits" = true := by first | (simp [plainName, overriddenIn]; done) | decide +kernel
theorem ef_rm7 (m : MethodId) (x0 : Addr) : entryFrame m #[(.ref x0)] 1 = mkF m 0 #[.val (.ref x0)] [] := by first | (simp [entryFrame, mkF, argsToLocals, Value.category]; done) | rfl
def f7 (r0 : Addr) (w_r0_perToken : Int64) : Int64 := w_r0_perToken
set_option maxRecDepth 65536 in
set_option maxHeartbeats 40000000 in
theorem rm7 (l : Launch) (Z : State) (a0 : Array Value) (hw : ∀ d ∈ tables_1, d.before a0 Z = true) (ws : List Jvm.Cond) (r0 : Addr) (w_r0_perToken : Int64) (h0 : Heap) (n0 : Nat) (Z0 : n0 ≤ h0.size) (F_r0_perToken : Fld Z h0 r0 "com/example/danaid/danaid/TokenBucketUnits" "perToken" "J" (.long w_r0_perToken)) :
    MetFree l (⟨"com/example/danaid/danaid/TokenBucketUnits", "perToken", "()J"⟩ : MethodName) (head1 (Jvm.Cond.code (⟨"com/example/danaid/danaid/TokenBucketUnits", "perToken", "()J"⟩ : MethodName) prog_14_method_5_code 1 (some .long) :: ws) ({ frames := 0, cells := 0, slots := 0, locals := 0 } : Room)) (fun a U => a = #[(.ref r0)] ∧ Z.Warmed39 U.vm ∧ U.heap = h0) (fun _ _ _ _ _ => True) (fun _ U o U' => ∃ v L, o = .returned v ∧ Qp (.long (f7 r0 w_r0_perToken)) h0 n0 v U'.heap L ∧ FrameEnd U o U' L ({ frames := 0, cells := 0, slots := 0, locals := 0 } : Room).cells ({ frames := 0, cells := 0, slots := 0, locals := 0 } : Room).slots) := by
  refine MetFree.of_bodySF (plainFor_of_name pn_7) hisR ?_
  intro p e s m args below meth c s₁ Bd hml0 hP hK
  obtain ⟨rfl, hZ, hh⟩ := hP
  have hx := Bd.exec
  have hby := Bd.bytes
  have hml : c.maxLocals = 1 := hml0
  have hown : s.vm.findClass "com/example/danaid/danaid/TokenBucketUnits" = some m.cls := findClass_of_methodNamed Bd.named
  have hnm := (name_of_methodNamed Bd.named Bd.method).1
  have hlk : meth.locks = false := BodyLoose.notSynchronized Bd
  have X0 : Stand p l e ({ frames := 0, cells := 0, slots := 0, locals := 0 } : Room) s m #[(.ref r0)] below meth c s₁ [] 0 0 := Stand.of_body Bd
  have e0 : s₁.heap = h0 := by rw [← hh, Bd.state]; rfl
  have N0 := Fr.nil n0
  have K0 : Keep h0 h0 [] := Keep.refl _ _
  show Goes p e below s (Qp (.long (f7 r0 w_r0_perToken)) h0 n0) ({ frames := 0, cells := 0, slots := 0, locals := 0 } : Room).cells ({ frames := 0, cells := 0, slots := 0, locals := 0 } : Room).slots (s₁.setTop (entryFrame m #[(.ref r0)] 1))
  rw [ef_rm7]
  show Goes p e below s _ _ _ (s₁.setTop (mkF m 0 #[.val (.ref r0)] []))
  refine Goes.go (fun _ k => XS.aloadN X0.here hx rfl (hb hby d7_0) rfl rfl  k) ?_
  show Goes p e below s _ _ _ (s₁.setTop (mkF m 1 #[.val (.ref r0)] [(.ref r0)]))
  obtain ⟨T1, X1, e1, st1⟩ := getF X0 hx hZ hown (host := "") (Or.inl (hw _ (List.mem_of_getElem? (i := 20) rfl))) Via.refl e0 F_r0_perToken (g := (mkF m 1 #[.val (.ref r0)] [(.ref r0)])) rfl rfl (hb hby d7_1)
  refine Goes.go st1 ?_
  show Goes p e below s _ _ _ (T1.setTop (mkF m 4 #[.val (.ref r0)] [(.long w_r0_perToken)]))
  refine Goes.retJ X1 hx hlk Bd.returns (hb hby d7_4) ?_ (by decide) (by decide)
  exact ⟨by rfl, N0, e1⟩
theorem d8_0 : decode prog_14_method_12_code 0 = .ok (.ldc2_w 87, 3) := by decide +kernel
theorem d8_3 : decode prog_14_method_12_code 3 = .ok (.lstore 5, 2) := by decide +kernel
theorem d8_5 : decode prog_14_method_12_code 5 = .ok (.lload_n 3, 1) := by decide +kernel
theorem d8_6 : decode prog_14_method_12_code 6 = .ok (.aload_n 0, 1) := by decide +kernel
theorem d8_7 : decode prog_14_method_12_code 7 = .ok (.getfield 20, 3) := by decide +kernel
theorem d8_10 : decode prog_14_method_12_code 10 = .ok (.lcmp, 1) := by decide +kernel
theorem d8_11 : decode prog_14_method_12_code 11 = .ok (.ifCond .gt 29, 3) := by decide +kernel
theorem d8_14 : decode prog_14_method_12_code 14 = .ok (.lload_n 1, 1) := by decide +kernel
theorem d8_15 : decode prog_14_method_12_code 15 = .ok (.aload_n 0, 1) := by decide +kernel
theorem d8_16 : decode prog_14_method_12_code 16 = .ok (.getfield 34, 3) := by decide +kernel
theorem d8_19 : decode prog_14_method_12_code 19 = .ok (.lload_n 3, 1) := by decide +kernel
theorem d8_20 : decode prog_14_method_12_code 20 = .ok (.aload_n 0, 1) := by decide +kernel
theorem d8_21 : decode prog_14_method_12_code 21 = .ok (.getfield 23, 3) := by decide +kernel
theorem d8_24 : decode prog_14_method_12_code 24 = .ok (.lmul, 1) := by decide +kernel
theorem d8_25 : decode prog_14_method_12_code 25 = .ok (.lsub, 1) := by decide +kernel
theorem d8_26 : decode prog_14_method_12_code 26 = .ok (.lcmp, 1) := by decide +kernel
theorem d8_27 : decode prog_14_method_12_code 27 = .ok (.ifCond .gt 13, 3) := by decide +kernel
theorem d8_30 : decode prog_14_method_12_code 30 = .ok (.lload_n 1, 1) := by decide +kernel
theorem d8_31 : decode prog_14_method_12_code 31 = .ok (.lload_n 3, 1) := by decide +kernel
theorem d8_32 : decode prog_14_method_12_code 32 = .ok (.aload_n 0, 1) := by decide +kernel
theorem d8_33 : decode prog_14_method_12_code 33 = .ok (.getfield 23, 3) := by decide +kernel
theorem d8_36 : decode prog_14_method_12_code 36 = .ok (.lmul, 1) := by decide +kernel
theorem d8_37 : decode prog_14_method_12_code 37 = .ok (.ladd, 1) := by decide +kernel
theorem d8_38 : decode prog_14_method_12_code 38 = .ok (.lstore 5, 2) := by decide +kernel
theorem d8_40 : decode prog_14_method_12_code 40 = .ok (.lload 5, 2) := by decide +kernel
theorem d8_42 : decode prog_14_method_12_code 42 = .ok (.lreturn, 1) := by decide +kernel
theorem pn_8 : plainName "com/example/danaid/danaid/TokenBucketUnits" = true := by first | (simp [plainName, overriddenIn]; done) | decide +kernel
theorem ef_rm8 (m : MethodId) (x0 : Addr) (x1 : Int64) (x2 : Int64) : entryFrame m #[(.ref x0), (.long x1), (.long x2)] 7 = mkF m 0 #[.val (.ref x0), .val (.long x1), .second, .val (.long x2), .second, .unset, .unset] [] := by first | (simp [entryFrame, mkF, argsToLocals, Value.category]; done) | rfl
def f8 (r0 : Addr) (q1 : Int64) (q2 : Int64) (w_r0_burst : Int64) (w_r0_capacity : Int64) (w_r0_perToken : Int64) : Int64 := (if w_r0_burst < q2 then (-1 : Int64) else (if (w_r0_capacity - (q2 * w_r0_perToken)) < q1 then (-1 : Int64) else (q1 + (q2 * w_r0_perToken))))
set_option maxRecDepth 65536 in
set_option maxHeartbeats 40000000 in
theorem rm8 (l : Launch) (Z : State) (a0 : Array Value) (hw : ∀ d ∈ tables_1, d.before a0 Z = true) (ws : List Jvm.Cond) (r0 : Addr) (q1 : Int64) (q2 : Int64) (w_r0_burst : Int64) (w_r0_capacity : Int64) (w_r0_perToken : Int64) (h0 : Heap) (n0 : Nat) (Z0 : n0 ≤ h0.size) (F_r0_burst : Fld Z h0 r0 "com/example/danaid/danaid/TokenBucketUnits" "burst" "J" (.long w_r0_burst)) (F_r0_capacity : Fld Z h0 r0 "com/example/danaid/danaid/TokenBucketUnits" "capacity" "J" (.long w_r0_capacity)) (F_r0_perToken : Fld Z h0 r0 "com/example/danaid/danaid/TokenBucketUnits" "perToken" "J" (.long w_r0_perToken)) :
    MetFree l (⟨"com/example/danaid/danaid/TokenBucketUnits", "missingAfterTaking", "(JJ)J"⟩ : MethodName) (head1 (Jvm.Cond.code (⟨"com/example/danaid/danaid/TokenBucketUnits", "missingAfterTaking", "(JJ)J"⟩ : MethodName) prog_14_method_12_code 7 (some .long) :: ws) ({ frames := 0, cells := 0, slots := 0, locals := 0 } : Room)) (fun a U => a = #[(.ref r0), (.long q1), (.long q2)] ∧ Z.Warmed39 U.vm ∧ U.heap = h0) (fun _ _ _ _ _ => True) (fun _ U o U' => ∃ v L, o = .returned v ∧ Qp (.long (f8 r0 q1 q2 w_r0_burst w_r0_capacity w_r0_perToken)) h0 n0 v U'.heap L ∧ FrameEnd U o U' L ({ frames := 0, cells := 0, slots := 0, locals := 0 } : Room).cells ({ frames := 0, cells := 0, slots := 0, locals := 0 } : Room).slots) := by
  refine MetFree.of_bodySF (plainFor_of_name pn_8) hisR ?_
  intro p e s m args below meth c s₁ Bd hml0 hP hK
  obtain ⟨rfl, hZ, hh⟩ := hP
  have hx := Bd.exec
  have hby := Bd.bytes
  have hml : c.maxLocals = 7 := hml0
  have hown : s.vm.findClass "com/example/danaid/danaid/TokenBucketUnits" = some m.cls := findClass_of_methodNamed Bd.named
  have hnm := (name_of_methodNamed Bd.named Bd.method).1
  have hlk : meth.locks = false := BodyLoose.notSynchronized Bd
  have X0 : Stand p l e ({ frames := 0, cells := 0, slots := 0, locals := 0 } : Room) s m #[(.ref r0), (.long q1), (.long q2)] below meth c s₁ [] 0 0 := Stand.of_body Bd
  have e0 : s₁.heap = h0 := by rw [← hh, Bd.state]; rfl
  have N0 := Fr.nil n0
  have K0 : Keep h0 h0 [] := Keep.refl _ _
  show Goes p e below s (Qp (.long (f8 r0 q1 q2 w_r0_burst w_r0_capacity w_r0_perToken)) h0 n0) ({ frames := 0, cells := 0, slots := 0, locals := 0 } : Room).cells ({ frames := 0, cells := 0, slots := 0, locals := 0 } : Room).slots (s₁.setTop (entryFrame m #[(.ref r0), (.long q1), (.long q2)] 7))
  rw [ef_rm8]
  show Goes p e below s _ _ _ (s₁.setTop (mkF m 0 #[.val (.ref r0), .val (.long q1), .second, .val (.long q2), .second, .unset, .unset] []))
  refine Goes.go (fun _ k => X0.ldc2Long hx hown (mvT hZ (hw _ (List.mem_of_getElem? (i := 51) rfl))) (g := (mkF m 0 #[.val (.ref r0), .val (.long q1), .second, .val (.long q2), .second, .unset, .unset] [])) rfl (hb hby d8_0) _ k) ?_
  show Goes p e below s _ _ _ (s₁.setTop (mkF m 3 #[.val (.ref r0), .val (.long q1), .second, .val (.long q2), .second, .unset, .unset] [(.long (-1 : Int64))]))
  refine Goes.go (fun _ k => XS.lstore X0.here hx rfl (hb hby d8_3) rfl (l' := #[.val (.ref r0), .val (.long q1), .second, .val (.long q2), .second, .val (.long (-1 : Int64)), .second]) rfl k) ?_
  show Goes p e below s _ _ _ (s₁.setTop (mkF m 5 #[.val (.ref r0), .val (.long q1), .second, .val (.long q2), .second, .val (.long (-1 : Int64)), .second] []))
  refine Goes.go (fun _ k => XS.lloadN X0.here hx rfl (hb hby d8_5) rfl  k) ?_
  show Goes p e below s _ _ _ (s₁.setTop (mkF m 6 #[.val (.ref r0), .val (.long q1), .second, .val (.long q2), .second, .val (.long (-1 : Int64)), .second] [(.long q2)]))
  refine Goes.go (fun _ k => XS.aloadN X0.here hx rfl (hb hby d8_6) rfl rfl  k) ?_
  show Goes p e below s _ _ _ (s₁.setTop (mkF m 7 #[.val (.ref r0), .val (.long q1), .second, .val (.long q2), .second, .val (.long (-1 : Int64)), .second] [(.ref r0), (.long q2)]))
  obtain ⟨T1, X1, e1, st1⟩ := getF X0 hx hZ hown (host := "") (Or.inl (hw _ (List.mem_of_getElem? (i := 18) rfl))) Via.refl e0 F_r0_burst (g := (mkF m 7 #[.val (.ref r0), .val (.long q1), .second, .val (.long q2), .second, .val (.long (-1 : Int64)), .second] [(.ref r0), (.long q2)])) rfl rfl (hb hby d8_7)
  refine Goes.go st1 ?_
  show Goes p e below s _ _ _ (T1.setTop (mkF m 10 #[.val (.ref r0), .val (.long q1), .second, .val (.long q2), .second, .val (.long (-1 : Int64)), .second] [(.long w_r0_burst), (.long q2)]))
  refine Goes.go (fun _ k => XS.lcmp X1.here hx rfl (hb hby d8_10) rfl k) ?_
  show Goes p e below s _ _ _ (T1.setTop (mkF m 11 #[.val (.ref r0), .val (.long q1), .second, .val (.long q2), .second, .val (.long (-1 : Int64)), .second] [(.int (lcmpW q2 w_r0_burst))]))
  by_cases hc11_2 : w_r0_burst < q2
  · skip
    refine Goes.qj (if_pos hc11_2) ?_
    refine Goes.go (fun _ k => XS.ifYes X1.here hx rfl (pc0 := 11) (pc' := 40) rfl (hb hby d8_11) rfl ((if0 _ _).trans (tlt ((lw_gt q2 w_r0_burst).mpr hc11_2)).2.2.1) (by decide) (by decide) k) ?_
    show Goes p e below s _ _ _ (T1.setTop (mkF m 40 #[.val (.ref r0), .val (.long q1), .second, .val (.long q2), .second, .val (.long (-1 : Int64)), .second] []))
    refine Goes.go (fun _ k => XS.lload X1.here hx rfl (hb hby d8_40) rfl  k) ?_
    show Goes p e below s _ _ _ (T1.setTop (mkF m 42 #[.val (.ref r0), .val (.long q1), .second, .val (.long q2), .second, .val (.long (-1 : Int64)), .second] [(.long (-1 : Int64))]))
    refine Goes.retJ X1 hx hlk Bd.returns (hb hby d8_42) ?_ (by decide) (by decide)
    exact ⟨by rfl, N0, e1⟩
  · skip
    refine Goes.qj (if_neg hc11_2) ?_
    refine Goes.go (fun _ k => XS.ifNo X1.here hx rfl (hb hby d8_11) rfl ((if0 _ _).trans (flt (mt (lw_gt q2 w_r0_burst).mp hc11_2)).2.2.1) k) ?_
    show Goes p e below s _ _ _ (T1.setTop (mkF m 14 #[.val (.ref r0), .val (.long q1), .second, .val (.long q2), .second, .val (.long (-1 : Int64)), .second] []))
    refine Goes.go (fun _ k => XS.lloadN X1.here hx rfl (hb hby d8_14) rfl  k) ?_
    show Goes p e below s _ _ _ (T1.setTop (mkF m 15 #[.val (.ref r0), .val (.long q1), .second, .val (.long q2), .second, .val (.long (-1 : Int64)), .second] [(.long q1)]))
    refine Goes.go (fun _ k => XS.aloadN X1.here hx rfl (hb hby d8_15) rfl rfl  k) ?_
    show Goes p e below s _ _ _ (T1.setTop (mkF m 16 #[.val (.ref r0), .val (.long q1), .second, .val (.long q2), .second, .val (.long (-1 : Int64)), .second] [(.ref r0), (.long q1)]))
    obtain ⟨T3, X3, e3, st3⟩ := getF X1 hx hZ hown (host := "") (Or.inl (hw _ (List.mem_of_getElem? (i := 31) rfl))) Via.refl e1 F_r0_capacity (g := (mkF m 16 #[.val (.ref r0), .val (.long q1), .second, .val (.long q2), .second, .val (.long (-1 : Int64)), .second] [(.ref r0), (.long q1)])) rfl rfl (hb hby d8_16)
    refine Goes.go st3 ?_
    show Goes p e below s _ _ _ (T3.setTop (mkF m 19 #[.val (.ref r0), .val (.long q1), .second, .val (.long q2), .second, .val (.long (-1 : Int64)), .second] [(.long w_r0_capacity), (.long q1)]))
    refine Goes.go (fun _ k => XS.lloadN X3.here hx rfl (hb hby d8_19) rfl  k) ?_
    show Goes p e below s _ _ _ (T3.setTop (mkF m 20 #[.val (.ref r0), .val (.long q1), .second, .val (.long q2), .second, .val (.long (-1 : Int64)), .second] [(.long q2), (.long w_r0_capacity), (.long q1)]))
    refine Goes.go (fun _ k => XS.aloadN X3.here hx rfl (hb hby d8_20) rfl rfl  k) ?_
    show Goes p e below s _ _ _ (T3.setTop (mkF m 21 #[.val (.ref r0), .val (.long q1), .second, .val (.long q2), .second, .val (.long (-1 : Int64)), .second] [(.ref r0), (.long q2), (.long w_r0_capacity), (.long q1)]))
    obtain ⟨T4, X4, e4, st4⟩ := getF X3 hx hZ hown (host := "") (Or.inl (hw _ (List.mem_of_getElem? (i := 20) rfl))) Via.refl e3 F_r0_perToken (g := (mkF m 21 #[.val (.ref r0), .val (.long q1), .second, .val (.long q2), .second, .val (.long (-1 : Int64)), .second] [(.ref r0), (.long q2), (.long w_r0_capacity), (.long q1)])) rfl rfl (hb hby d8_21)
    refine Goes.go st4 ?_
    show Goes p e below s _ _ _ (T4.setTop (mkF m 24 #[.val (.ref r0), .val (.long q1), .second, .val (.long q2), .second, .val (.long (-1 : Int64)), .second] [(.long w_r0_perToken), (.long q2), (.long w_r0_capacity), (.long q1)]))
    refine Goes.go (fun _ k => XS.lmul X4.here hx rfl (hb hby d8_24) rfl k) ?_
    show Goes p e below s _ _ _ (T4.setTop (mkF m 25 #[.val (.ref r0), .val (.long q1), .second, .val (.long q2), .second, .val (.long (-1 : Int64)), .second] [(.long (q2 * w_r0_perToken)), (.long w_r0_capacity), (.long q1)]))
    refine Goes.go (fun _ k => XS.lsub X4.here hx rfl (hb hby d8_25) rfl k) ?_
    show Goes p e below s _ _ _ (T4.setTop (mkF m 26 #[.val (.ref r0), .val (.long q1), .second, .val (.long q2), .second, .val (.long (-1 : Int64)), .second] [(.long (w_r0_capacity - (q2 * w_r0_perToken))), (.long q1)]))
    refine Goes.go (fun _ k => XS.lcmp X4.here hx rfl (hb hby d8_26) rfl k) ?_
    show Goes p e below s _ _ _ (T4.setTop (mkF m 27 #[.val (.ref r0), .val (.long q1), .second, .val (.long q2), .second, .val (.long (-1 : Int64)), .second] [(.int (lcmpW q1 (w_r0_capacity - (q2 * w_r0_perToken))))]))
    by_cases hc27_5 : (w_r0_capacity - (q2 * w_r0_perToken)) < q1
    · skip
      refine Goes.qj (if_pos hc27_5) ?_
      refine Goes.go (fun _ k => XS.ifYes X4.here hx rfl (pc0 := 27) (pc' := 40) rfl (hb hby d8_27) rfl ((if0 _ _).trans (tlt ((lw_gt q1 (w_r0_capacity - (q2 * w_r0_perToken))).mpr hc27_5)).2.2.1) (by decide) (by decide) k) ?_
      show Goes p e below s _ _ _ (T4.setTop (mkF m 40 #[.val (.ref r0), .val (.long q1), .second, .val (.long q2), .second, .val (.long (-1 : Int64)), .second] []))
      refine Goes.go (fun _ k => XS.lload X4.here hx rfl (hb hby d8_40) rfl  k) ?_
      show Goes p e below s _ _ _ (T4.setTop (mkF m 42 #[.val (.ref r0), .val (.long q1), .second, .val (.long q2), .second, .val (.long (-1 : Int64)), .second] [(.long (-1 : Int64))]))
      refine Goes.retJ X4 hx hlk Bd.returns (hb hby d8_42) ?_ (by decide) (by decide)
      exact ⟨by rfl, N0, e4⟩
    · skip
      refine Goes.qj (if_neg hc27_5) ?_
      refine Goes.go (fun _ k => XS.ifNo X4.here hx rfl (hb hby d8_27) rfl ((if0 _ _).trans (flt (mt (lw_gt q1 (w_r0_capacity - (q2 * w_r0_perToken))).mp hc27_5)).2.2.1) k) ?_
      show Goes p e below s _ _ _ (T4.setTop (mkF m 30 #[.val (.ref r0), .val (.long q1), .second, .val (.long q2), .second, .val (.long (-1 : Int64)), .second] []))
      refine Goes.go (fun _ k => XS.lloadN X4.here hx rfl (hb hby d8_30) rfl  k) ?_
      show Goes p e below s _ _ _ (T4.setTop (mkF m 31 #[.val (.ref r0), .val (.long q1), .second, .val (.long q2), .second, .val (.long (-1 : Int64)), .second] [(.long q1)]))
      refine Goes.go (fun _ k => XS.lloadN X4.here hx rfl (hb hby d8_31) rfl  k) ?_
      show Goes p e below s _ _ _ (T4.setTop (mkF m 32 #[.val (.ref r0), .val (.long q1), .second, .val (.long q2), .second, .val (.long (-1 : Int64)), .second] [(.long q2), (.long q1)]))
      refine Goes.go (fun _ k => XS.aloadN X4.here hx rfl (hb hby d8_32) rfl rfl  k) ?_
      show Goes p e below s _ _ _ (T4.setTop (mkF m 33 #[.val (.ref r0), .val (.long q1), .second, .val (.long q2), .second, .val (.long (-1 : Int64)), .second] [(.ref r0), (.long q2), (.long q1)]))
      obtain ⟨T6, X6, e6, st6⟩ := getF X4 hx hZ hown (host := "") (Or.inl (hw _ (List.mem_of_getElem? (i := 20) rfl))) Via.refl e4 F_r0_perToken (g := (mkF m 33 #[.val (.ref r0), .val (.long q1), .second, .val (.long q2), .second, .val (.long (-1 : Int64)), .second] [(.ref r0), (.long q2), (.long q1)])) rfl rfl (hb hby d8_33)
      refine Goes.go st6 ?_
      show Goes p e below s _ _ _ (T6.setTop (mkF m 36 #[.val (.ref r0), .val (.long q1), .second, .val (.long q2), .second, .val (.long (-1 : Int64)), .second] [(.long w_r0_perToken), (.long q2), (.long q1)]))
      refine Goes.go (fun _ k => XS.lmul X6.here hx rfl (hb hby d8_36) rfl k) ?_
      show Goes p e below s _ _ _ (T6.setTop (mkF m 37 #[.val (.ref r0), .val (.long q1), .second, .val (.long q2), .second, .val (.long (-1 : Int64)), .second] [(.long (q2 * w_r0_perToken)), (.long q1)]))
      refine Goes.go (fun _ k => XS.ladd X6.here hx rfl (hb hby d8_37) rfl k) ?_
      show Goes p e below s _ _ _ (T6.setTop (mkF m 38 #[.val (.ref r0), .val (.long q1), .second, .val (.long q2), .second, .val (.long (-1 : Int64)), .second] [(.long (q1 + (q2 * w_r0_perToken)))]))
      refine Goes.go (fun _ k => XS.lstore X6.here hx rfl (hb hby d8_38) rfl (l' := #[.val (.ref r0), .val (.long q1), .second, .val (.long q2), .second, .val (.long (q1 + (q2 * w_r0_perToken))), .second]) rfl k) ?_
      show Goes p e below s _ _ _ (T6.setTop (mkF m 40 #[.val (.ref r0), .val (.long q1), .second, .val (.long q2), .second, .val (.long (q1 + (q2 * w_r0_perToken))), .second] []))
      refine Goes.go (fun _ k => XS.lload X6.here hx rfl (hb hby d8_40) rfl  k) ?_
      show Goes p e below s _ _ _ (T6.setTop (mkF m 42 #[.val (.ref r0), .val (.long q1), .second, .val (.long q2), .second, .val (.long (q1 + (q2 * w_r0_perToken))), .second] [(.long (q1 + (q2 * w_r0_perToken)))]))
      refine Goes.retJ X6 hx hlk Bd.returns (hb hby d8_42) ?_ (by decide) (by decide)
      exact ⟨by rfl, N0, e6⟩
theorem own_z : (0 : Int64).toInt = 0 := rfl
theorem own_o : (1 : Int64).toInt = 1 := rfl
theorem own_M : (9223372036854775807 : Int64).toInt = 9223372036854775807 := rfl
theorem own_nn (x : Int64) : 0 ≤ (x &&& (9223372036854775807 : Int64)).toInt := by
  rw [Jvm.Kit.i64_mask x _ (k := 63) (by decide) (by decide)]
  exact Int.emod_nonneg _ (by decide)
theorem own_one (x : Int32) : 0 < ((x &&& (2147483647 : Int32)).toInt64 + (1 : Int64)).toInt ∧ ((x &&& (2147483647 : Int32)).toInt64 + (1 : Int64)).toInt ≤ 2 ^ 31 := by
  have h := Jvm.Kit.i32_mask x 2147483647 (k := 31) (by decide) (by decide)
  have h1 := Int.emod_nonneg x.toInt (show (2 : Int) ^ 31 ≠ 0 by decide)
  have h2 := Int.emod_lt_of_pos x.toInt (show (0 : Int) < 2 ^ 31 by decide)
  have e := Jvm.Kit.i64_of_i32 (x &&& (2147483647 : Int32))
  rw [Jvm.Kit.i64_add (by rw [e, own_o, h]; omega) (by rw [e, own_o, h]; omega), e, own_o, h]
  omega
theorem own_D {per : Int64} (hp : 0 < per.toInt) (hp2 : per.toInt ≤ 2 ^ 31) : ((9223372036854775807 : Int64) / per).toInt = 9223372036854775807 / per.toInt ∧ 1 ≤ 9223372036854775807 / per.toInt := by
  constructor
  · rw [own_divN (by rw [own_M]; decide) hp, own_M]
  · exact (Int.le_ediv_iff_mul_le hp).mpr (by omega)
theorem own_q {per : Int64} (hp : 0 < per.toInt) (hp2 : per.toInt ≤ 2 ^ 31) : ((9223372036854775807 : Int64) / per) ≠ 0 := own_nz (by have := own_D hp hp2; omega)
theorem own_bur (c : Int64) {per : Int64} (hp : 0 < per.toInt) (hp2 : per.toInt ≤ 2 ^ 31) : 0 < (((c &&& (9223372036854775807 : Int64)) % ((9223372036854775807 : Int64) / per)) + (1 : Int64)).toInt ∧ (((c &&& (9223372036854775807 : Int64)) % ((9223372036854775807 : Int64) / per)) + (1 : Int64)).toInt * per.toInt < 2 ^ 63 := by
  obtain ⟨d1, d2⟩ := own_D hp hp2
  have hc := own_nn c
  have hm := own_modJ (y := (9223372036854775807 : Int64) / per) hc
  rw [d1] at hm
  have m1 := Int.emod_nonneg (c &&& (9223372036854775807 : Int64)).toInt (show (9223372036854775807 / per.toInt) ≠ 0 by omega)
  have m2 := Int.emod_lt_of_pos (c &&& (9223372036854775807 : Int64)).toInt (show 0 < (9223372036854775807 / per.toInt) by omega)
  have d3 : 9223372036854775807 / per.toInt ≤ 9223372036854775807 := Int.ediv_le_self _ (by decide)
  have e : (((c &&& (9223372036854775807 : Int64)) % ((9223372036854775807 : Int64) / per)) + (1 : Int64)).toInt = (c &&& (9223372036854775807 : Int64)).toInt % (9223372036854775807 / per.toInt) + 1 := by
    rw [Jvm.Kit.i64_add (by rw [hm, own_o]; omega) (by rw [hm, own_o]; omega), hm, own_o]
  rw [e]
  have d4 := Int.mul_le_mul_of_nonneg_right (show (c &&& (9223372036854775807 : Int64)).toInt % (9223372036854775807 / per.toInt) + 1 ≤ 9223372036854775807 / per.toInt by omega) (show 0 ≤ per.toInt by omega)
  have d5 : 9223372036854775807 / per.toInt * per.toInt ≤ 9223372036854775807 := Int.ediv_mul_le _ (by omega)
  omega
theorem own_units {lim per bur : Int64} (h1 : 0 < lim.toInt) (h2 : 0 < per.toInt) (h3 : 0 < bur.toInt) (h4 : bur.toInt * per.toInt < 2 ^ 63) : 0 < (per / (own_g lim per)).toInt ∧ (bur * (per / (own_g lim per))).toInt = bur.toInt * (per / (own_g lim per)).toInt := by
  have hg := own_gpos (y := per) h1
  have hpt : (per / (own_g lim per)).toInt = per.toInt / (own_g lim per).toInt := own_divN (by omega) hg
  have hpt1 : 1 ≤ per.toInt / (own_g lim per).toInt := (Int.le_ediv_iff_mul_le hg).mpr (by have := own_gle2 h1 h2; omega)
  have hpt2 : per.toInt / (own_g lim per).toInt ≤ per.toInt := Int.ediv_le_self _ (by omega)
  have h5 := Int.mul_le_mul_of_nonneg_left hpt2 (show 0 ≤ bur.toInt by omega)
  exact ⟨by omega, own_mul h3 (by omega) (by rw [hpt]; omega)⟩
theorem own_mis {mm cap : Int64} (a : Int32) (hm : 0 ≤ mm.toInt) (hc : 0 < cap.toInt) : 0 ≤ (if a = (0 : Int32) then mm else (if a = (1 : Int32) then (mm % cap) else (cap - (mm % cap)))).toInt := by
  have e := own_modJ (y := cap) hm
  have m1 := Int.emod_nonneg mm.toInt (show cap.toInt ≠ 0 by omega)
  have m2 := Int.emod_lt_of_pos mm.toInt hc
  have hlt := cap.toInt_lt
  by_cases h0 : a = 0
  · rw [if_pos h0]; exact hm
  · rw [if_neg h0]
    by_cases h1 : a = 1
    · rw [if_pos h1, e]; exact m1
    · rw [if_neg h1, Jvm.Kit.i64_sub (by rw [e]; omega) (by rw [e]; omega), e]; omega
theorem own_p1 (x : Int64) : 0 < (f9 (1 : Int64) x).toInt := by
  unfold f9
  by_cases h : (1 : Int64) < x
  · rw [if_pos h]
    have := Int64.lt_iff_toInt_lt.mp h
    rw [own_o] at this
    omega
  · rw [if_neg h]; decide
theorem own_p2 {pp bur : Int64} (hp : 0 ≤ pp.toInt) (hb : 0 < bur.toInt) : 0 < ((pp % bur) + (1 : Int64)).toInt := by
  have e := own_modJ (y := bur) hp
  have m1 := Int.emod_nonneg pp.toInt (show bur.toInt ≠ 0 by omega)
  have m2 := Int.emod_lt_of_pos pp.toInt hb
  have hlt := bur.toInt_lt
  rw [Jvm.Kit.i64_add (by rw [e, own_o]; omega) (by rw [e, own_o]; omega), e, own_o]; omega
theorem own_law {bur cap pt mis prm : Int64} (r : Addr) (hpt : 0 < pt.toInt) (hbur : 0 < bur.toInt) (hcap : cap.toInt = bur.toInt * pt.toInt) (hmis : 0 ≤ mis.toInt) (hprm : 0 < prm.toInt) :
    f8 r mis prm bur cap pt = (if (if cap < mis then (0 : Int32) else (if ((cap - mis) / pt) < prm then (0 : Int32) else (1 : Int32))) = (0 : Int32) then (-1 : Int64) else (mis + (prm * pt))) := by
  unfold f8
  have hlt := cap.toInt_lt
  by_cases h1 : bur < prm
  · rw [if_pos h1]
    have b1 := Int64.lt_iff_toInt_lt.mp h1
    by_cases h2 : cap < mis
    · rw [if_pos h2, if_pos rfl]
    · rw [if_neg h2]
      have b2 := mt Int64.lt_iff_toInt_lt.mpr h2
      have e1 : (cap - mis).toInt = cap.toInt - mis.toInt := Jvm.Kit.i64_sub (by omega) (by omega)
      have h3 : ((cap - mis) / pt) < prm := by
        rw [Int64.lt_iff_toInt_lt, own_divN (by rw [e1]; omega) hpt, e1]
        refine Int.ediv_lt_of_lt_mul hpt ?_
        have := Int.mul_lt_mul_of_pos_right b1 hpt
        omega
      rw [if_pos h3, if_pos rfl]
  · rw [if_neg h1]
    have b1 := mt Int64.lt_iff_toInt_lt.mpr h1
    have p1 : prm.toInt * pt.toInt ≤ bur.toInt * pt.toInt := Int.mul_le_mul_of_nonneg_right (by omega) (by omega)
    have p0 : 0 < prm.toInt * pt.toInt := Int.mul_pos hprm hpt
    have e0 : (prm * pt).toInt = prm.toInt * pt.toInt := Jvm.Kit.i64_mul (by omega) (by omega)
    have e2 : (cap - prm * pt).toInt = cap.toInt - prm.toInt * pt.toInt := by rw [Jvm.Kit.i64_sub (by rw [e0]; omega) (by rw [e0]; omega), e0]
    by_cases h2 : cap < mis
    · have b2 := Int64.lt_iff_toInt_lt.mp h2
      have h3 : (cap - (prm * pt)) < mis := by rw [Int64.lt_iff_toInt_lt, e2]; omega
      rw [if_pos h2, if_pos rfl, if_pos h3]
    · rw [if_neg h2]
      have b2 := mt Int64.lt_iff_toInt_lt.mpr h2
      have e1 : (cap - mis).toInt = cap.toInt - mis.toInt := Jvm.Kit.i64_sub (by omega) (by omega)
      by_cases h3 : (cap - (prm * pt)) < mis
      · have b3 := Int64.lt_iff_toInt_lt.mp h3
        rw [e2] at b3
        have h4 : ((cap - mis) / pt) < prm := by
          rw [Int64.lt_iff_toInt_lt, own_divN (by rw [e1]; omega) hpt, e1]
          exact Int.ediv_lt_of_lt_mul hpt (by omega)
        rw [if_pos h3, if_pos h4, if_pos rfl]
      · have b3 := mt Int64.lt_iff_toInt_lt.mpr h3
        rw [e2] at b3
        have h4 : ¬ ((cap - mis) / pt) < prm := by
          rw [Int64.lt_iff_toInt_lt, own_divN (by rw [e1]; omega) hpt, e1]
          have := (Int.le_ediv_iff_mul_le (a := prm.toInt) (b := cap.toInt - mis.toInt) hpt).mpr (by omega)
          omega
        rw [if_neg h3, if_neg h4, if_neg (by decide)]
theorem pn_0 : plainName "com/example/danaid/danaid/TokenBucketUnitsMissingAfterTakingPinLaw" = true := by first | (simp [plainName, overriddenIn]; done) | decide +kernel
theorem ef_rm0 (m : MethodId) (x0 : Int32) (x1 : Int32) (x2 : Int64) (x3 : Int64) (x4 : Int64) (x5 : Int32) : entryFrame m #[(.int x0), (.int x1), (.long x2), (.long x3), (.long x4), (.int x5)] maxLocals = mkF m 0 #[.val (.int x0), .val (.int x1), .val (.long x2), .second, .val (.long x3), .second, .val (.long x4), .second, .val (.int x5), .unset, .unset, .unset, .unset, .unset, .unset, .unset, .unset, .unset, .unset, .unset, .unset, .unset, .unset, .unset, .unset, .unset, .unset, .unset, .unset, .unset, .unset, .unset] [] := by first | (simp [entryFrame, mkF, argsToLocals, Value.category, maxLocals]; done) | rfl
def Q0 (n0 : Nat) (v : Option Value) (h : Heap) (L : List Loc) : Prop := v = some (.int 1) ∧ Fr n0 L
set_option maxRecDepth 65536 in
set_option maxHeartbeats 40000000 in
theorem rm0 (l : Launch) (Z : State) (a0 : Array Value) (hw : ∀ d ∈ tables_1, d.before a0 Z = true) (ws : List Jvm.Cond) (p0 : Int32) (p1 : Int32) (q2 : Int64) (q3 : Int64) (q4 : Int64) (p5 : Int32) (h0 : Heap) (n0 : Nat) (Z0 : n0 ≤ h0.size) :
    MetFree l x (head1 (Jvm.Cond.code x code maxLocals ret :: ws) room_1) (fun a U => a = #[(.int p0), (.int p1), (.long q2), (.long q3), (.long q4), (.int p5)] ∧ Z.Warmed39 U.vm ∧ U.heap = h0) (fun _ _ _ _ _ => True) (fun _ U o U' => ∃ v L, o = .returned v ∧ Q0 n0 v U'.heap L ∧ FrameEnd U o U' L room_1.cells room_1.slots) := by
  refine MetFree.of_bodySF (plainFor_of_name pn_0) hisR ?_
  intro p e s m args below meth c s₁ Bd hml0 hP hK
  obtain ⟨rfl, hZ, hh⟩ := hP
  have hx := Bd.exec
  have hby := Bd.bytes
  have hml : c.maxLocals = 32 := hml0
  have hown : s.vm.findClass "com/example/danaid/danaid/TokenBucketUnitsMissingAfterTakingPinLaw" = some m.cls := findClass_of_methodNamed Bd.named
  have hnm := (name_of_methodNamed Bd.named Bd.method).1
  have hlk : meth.locks = false := BodyLoose.notSynchronized Bd
  have X0 : Stand p l e room_1 s m #[(.int p0), (.int p1), (.long q2), (.long q3), (.long q4), (.int p5)] below meth c s₁ [] 0 0 := Stand.of_body Bd
  have e0 : s₁.heap = h0 := by rw [← hh, Bd.state]; rfl
  have N0 := Fr.nil n0
  have K0 : Keep h0 h0 [] := Keep.refl _ _
  show Goes p e below s (Q0 n0) room_1.cells room_1.slots (s₁.setTop (entryFrame m #[(.int p0), (.int p1), (.long q2), (.long q3), (.long q4), (.int p5)] maxLocals))
  rw [ef_rm0]
  show Goes p e below s _ _ _ (s₁.setTop (mkF m 0 #[.val (.int p0), .val (.int p1), .val (.long q2), .second, .val (.long q3), .second, .val (.long q4), .second, .val (.int p5), .unset, .unset, .unset, .unset, .unset, .unset, .unset, .unset, .unset, .unset, .unset, .unset, .unset, .unset, .unset, .unset, .unset, .unset, .unset, .unset, .unset, .unset, .unset] []))
  refine Goes.go (fun _ k => XS.iloadN X0.here hx rfl (hb hby at_0) rfl  k) ?_
  show Goes p e below s _ _ _ (s₁.setTop (mkF m 1 #[.val (.int p0), .val (.int p1), .val (.long q2), .second, .val (.long q3), .second, .val (.long q4), .second, .val (.int p5), .unset, .unset, .unset, .unset, .unset, .unset, .unset, .unset, .unset, .unset, .unset, .unset, .unset, .unset, .unset, .unset, .unset, .unset, .unset, .unset, .unset, .unset, .unset] [(.int p0)]))
  refine Goes.go (fun _ k => X0.ldcInt hx hown (mvT hZ (hw _ (List.mem_of_getElem? (i := 0) rfl))) (g := (mkF m 1 #[.val (.int p0), .val (.int p1), .val (.long q2), .second, .val (.long q3), .second, .val (.long q4), .second, .val (.int p5), .unset, .unset, .unset, .unset, .unset, .unset, .unset, .unset, .unset, .unset, .unset, .unset, .unset, .unset, .unset, .unset, .unset, .unset, .unset, .unset, .unset, .unset, .unset] [(.int p0)])) rfl (hb hby at_1) _ k) ?_
  show Goes p e below s _ _ _ (s₁.setTop (mkF m 3 #[.val (.int p0), .val (.int p1), .val (.long q2), .second, .val (.long q3), .second, .val (.long q4), .second, .val (.int p5), .unset, .unset, .unset, .unset, .unset, .unset, .unset, .unset, .unset, .unset, .unset, .unset, .unset, .unset, .unset, .unset, .unset, .unset, .unset, .unset, .unset, .unset, .unset] [(.int (2147483647 : Int32)), (.int p0)]))
  refine Goes.go (fun _ k => XS.iand X0.here hx rfl (hb hby at_3) rfl k) ?_
  show Goes p e below s _ _ _ (s₁.setTop (mkF m 4 #[.val (.int p0), .val (.int p1), .val (.long q2), .second, .val (.long q3), .second, .val (.long q4), .second, .val (.int p5), .unset, .unset, .unset, .unset, .unset, .unset, .unset, .unset, .unset, .unset, .unset, .unset, .unset, .unset, .unset, .unset, .unset, .unset, .unset, .unset, .unset, .unset, .unset] [(.int (p0 &&& (2147483647 : Int32)))]))
  refine Goes.go (fun _ k => XS.i2l X0.here hx rfl (hb hby at_4) rfl k) ?_
  show Goes p e below s _ _ _ (s₁.setTop (mkF m 5 #[.val (.int p0), .val (.int p1), .val (.long q2), .second, .val (.long q3), .second, .val (.long q4), .second, .val (.int p5), .unset, .unset, .unset, .unset, .unset, .unset, .unset, .unset, .unset, .unset, .unset, .unset, .unset, .unset, .unset, .unset, .unset, .unset, .unset, .unset, .unset, .unset, .unset] [(.long ((p0 &&& (2147483647 : Int32)).toInt64))]))
  refine Goes.go (fun _ k => XS.lconst X0.here hx rfl (hb hby at_5) k) ?_
  show Goes p e below s _ _ _ (s₁.setTop (mkF m 6 #[.val (.int p0), .val (.int p1), .val (.long q2), .second, .val (.long q3), .second, .val (.long q4), .second, .val (.int p5), .unset, .unset, .unset, .unset, .unset, .unset, .unset, .unset, .unset, .unset, .unset, .unset, .unset, .unset, .unset, .unset, .unset, .unset, .unset, .unset, .unset, .unset, .unset] [(.long (1 : Int64)), (.long ((p0 &&& (2147483647 : Int32)).toInt64))]))
  refine Goes.go (fun _ k => XS.ladd X0.here hx rfl (hb hby at_6) rfl k) ?_
  show Goes p e below s _ _ _ (s₁.setTop (mkF m 7 #[.val (.int p0), .val (.int p1), .val (.long q2), .second, .val (.long q3), .second, .val (.long q4), .second, .val (.int p5), .unset, .unset, .unset, .unset, .unset, .unset, .unset, .unset, .unset, .unset, .unset, .unset, .unset, .unset, .unset, .unset, .unset, .unset, .unset, .unset, .unset, .unset, .unset] [(.long (((p0 &&& (2147483647 : Int32)).toInt64) + (1 : Int64)))]))
  refine Goes.go (fun _ k => XS.lstore X0.here hx rfl (hb hby at_7) rfl (l' := #[.val (.int p0), .val (.int p1), .val (.long q2), .second, .val (.long q3), .second, .val (.long q4), .second, .val (.int p5), .val (.long (((p0 &&& (2147483647 : Int32)).toInt64) + (1 : Int64))), .second, .unset, .unset, .unset, .unset, .unset, .unset, .unset, .unset, .unset, .unset, .unset, .unset, .unset, .unset, .unset, .unset, .unset, .unset, .unset, .unset, .unset]) rfl k) ?_
  show Goes p e below s _ _ _ (s₁.setTop (mkF m 9 #[.val (.int p0), .val (.int p1), .val (.long q2), .second, .val (.long q3), .second, .val (.long q4), .second, .val (.int p5), .val (.long (((p0 &&& (2147483647 : Int32)).toInt64) + (1 : Int64))), .second, .unset, .unset, .unset, .unset, .unset, .unset, .unset, .unset, .unset, .unset, .unset, .unset, .unset, .unset, .unset, .unset, .unset, .unset, .unset, .unset, .unset] []))
  generalize d_lim : (((p0 &&& (2147483647 : Int32)).toInt64) + (1 : Int64)) = lim
  have hlim : 0 < lim.toInt := by rw [← d_lim]; exact (own_one _).1
  show Goes p e below s _ _ _ (s₁.setTop (mkF m 9 #[.val (.int p0), .val (.int p1), .val (.long q2), .second, .val (.long q3), .second, .val (.long q4), .second, .val (.int p5), .val (.long lim), .second, .unset, .unset, .unset, .unset, .unset, .unset, .unset, .unset, .unset, .unset, .unset, .unset, .unset, .unset, .unset, .unset, .unset, .unset, .unset, .unset, .unset] []))
  refine Goes.go (fun _ k => XS.iloadN X0.here hx rfl (hb hby at_9) rfl  k) ?_
  show Goes p e below s _ _ _ (s₁.setTop (mkF m 10 #[.val (.int p0), .val (.int p1), .val (.long q2), .second, .val (.long q3), .second, .val (.long q4), .second, .val (.int p5), .val (.long lim), .second, .unset, .unset, .unset, .unset, .unset, .unset, .unset, .unset, .unset, .unset, .unset, .unset, .unset, .unset, .unset, .unset, .unset, .unset, .unset, .unset, .unset] [(.int p1)]))
  refine Goes.go (fun _ k => X0.ldcInt hx hown (mvT hZ (hw _ (List.mem_of_getElem? (i := 0) rfl))) (g := (mkF m 10 #[.val (.int p0), .val (.int p1), .val (.long q2), .second, .val (.long q3), .second, .val (.long q4), .second, .val (.int p5), .val (.long lim), .second, .unset, .unset, .unset, .unset, .unset, .unset, .unset, .unset, .unset, .unset, .unset, .unset, .unset, .unset, .unset, .unset, .unset, .unset, .unset, .unset, .unset] [(.int p1)])) rfl (hb hby at_10) _ k) ?_
  show Goes p e below s _ _ _ (s₁.setTop (mkF m 12 #[.val (.int p0), .val (.int p1), .val (.long q2), .second, .val (.long q3), .second, .val (.long q4), .second, .val (.int p5), .val (.long lim), .second, .unset, .unset, .unset, .unset, .unset, .unset, .unset, .unset, .unset, .unset, .unset, .unset, .unset, .unset, .unset, .unset, .unset, .unset, .unset, .unset, .unset] [(.int (2147483647 : Int32)), (.int p1)]))
  refine Goes.go (fun _ k => XS.iand X0.here hx rfl (hb hby at_12) rfl k) ?_
  show Goes p e below s _ _ _ (s₁.setTop (mkF m 13 #[.val (.int p0), .val (.int p1), .val (.long q2), .second, .val (.long q3), .second, .val (.long q4), .second, .val (.int p5), .val (.long lim), .second, .unset, .unset, .unset, .unset, .unset, .unset, .unset, .unset, .unset, .unset, .unset, .unset, .unset, .unset, .unset, .unset, .unset, .unset, .unset, .unset, .unset] [(.int (p1 &&& (2147483647 : Int32)))]))
  refine Goes.go (fun _ k => XS.i2l X0.here hx rfl (hb hby at_13) rfl k) ?_
  show Goes p e below s _ _ _ (s₁.setTop (mkF m 14 #[.val (.int p0), .val (.int p1), .val (.long q2), .second, .val (.long q3), .second, .val (.long q4), .second, .val (.int p5), .val (.long lim), .second, .unset, .unset, .unset, .unset, .unset, .unset, .unset, .unset, .unset, .unset, .unset, .unset, .unset, .unset, .unset, .unset, .unset, .unset, .unset, .unset, .unset] [(.long ((p1 &&& (2147483647 : Int32)).toInt64))]))
  refine Goes.go (fun _ k => XS.lconst X0.here hx rfl (hb hby at_14) k) ?_
  show Goes p e below s _ _ _ (s₁.setTop (mkF m 15 #[.val (.int p0), .val (.int p1), .val (.long q2), .second, .val (.long q3), .second, .val (.long q4), .second, .val (.int p5), .val (.long lim), .second, .unset, .unset, .unset, .unset, .unset, .unset, .unset, .unset, .unset, .unset, .unset, .unset, .unset, .unset, .unset, .unset, .unset, .unset, .unset, .unset, .unset] [(.long (1 : Int64)), (.long ((p1 &&& (2147483647 : Int32)).toInt64))]))
  refine Goes.go (fun _ k => XS.ladd X0.here hx rfl (hb hby at_15) rfl k) ?_
  show Goes p e below s _ _ _ (s₁.setTop (mkF m 16 #[.val (.int p0), .val (.int p1), .val (.long q2), .second, .val (.long q3), .second, .val (.long q4), .second, .val (.int p5), .val (.long lim), .second, .unset, .unset, .unset, .unset, .unset, .unset, .unset, .unset, .unset, .unset, .unset, .unset, .unset, .unset, .unset, .unset, .unset, .unset, .unset, .unset, .unset] [(.long (((p1 &&& (2147483647 : Int32)).toInt64) + (1 : Int64)))]))
  refine Goes.go (fun _ k => XS.lstore X0.here hx rfl (hb hby at_16) rfl (l' := #[.val (.int p0), .val (.int p1), .val (.long q2), .second, .val (.long q3), .second, .val (.long q4), .second, .val (.int p5), .val (.long lim), .second, .val (.long (((p1 &&& (2147483647 : Int32)).toInt64) + (1 : Int64))), .second, .unset, .unset, .unset, .unset, .unset, .unset, .unset, .unset, .unset, .unset, .unset, .unset, .unset, .unset, .unset, .unset, .unset, .unset, .unset]) rfl k) ?_
  show Goes p e below s _ _ _ (s₁.setTop (mkF m 18 #[.val (.int p0), .val (.int p1), .val (.long q2), .second, .val (.long q3), .second, .val (.long q4), .second, .val (.int p5), .val (.long lim), .second, .val (.long (((p1 &&& (2147483647 : Int32)).toInt64) + (1 : Int64))), .second, .unset, .unset, .unset, .unset, .unset, .unset, .unset, .unset, .unset, .unset, .unset, .unset, .unset, .unset, .unset, .unset, .unset, .unset, .unset] []))
  generalize d_per : (((p1 &&& (2147483647 : Int32)).toInt64) + (1 : Int64)) = per
  have hper : 0 < per.toInt := by rw [← d_per]; exact (own_one _).1
  have hper2 : per.toInt ≤ 2 ^ 31 := by rw [← d_per]; exact (own_one _).2
  have hper0 := own_nz hper
  have hq0 := own_q hper hper2
  show Goes p e below s _ _ _ (s₁.setTop (mkF m 18 #[.val (.int p0), .val (.int p1), .val (.long q2), .second, .val (.long q3), .second, .val (.long q4), .second, .val (.int p5), .val (.long lim), .second, .val (.long per), .second, .unset, .unset, .unset, .unset, .unset, .unset, .unset, .unset, .unset, .unset, .unset, .unset, .unset, .unset, .unset, .unset, .unset, .unset, .unset] []))
  refine Goes.go (fun _ k => XS.lloadN X0.here hx rfl (hb hby at_18) rfl  k) ?_
  show Goes p e below s _ _ _ (s₁.setTop (mkF m 19 #[.val (.int p0), .val (.int p1), .val (.long q2), .second, .val (.long q3), .second, .val (.long q4), .second, .val (.int p5), .val (.long lim), .second, .val (.long per), .second, .unset, .unset, .unset, .unset, .unset, .unset, .unset, .unset, .unset, .unset, .unset, .unset, .unset, .unset, .unset, .unset, .unset, .unset, .unset] [(.long q2)]))
  refine Goes.go (fun _ k => X0.ldc2Long hx hown (mvT hZ (hw _ (List.mem_of_getElem? (i := 1) rfl))) (g := (mkF m 19 #[.val (.int p0), .val (.int p1), .val (.long q2), .second, .val (.long q3), .second, .val (.long q4), .second, .val (.int p5), .val (.long lim), .second, .val (.long per), .second, .unset, .unset, .unset, .unset, .unset, .unset, .unset, .unset, .unset, .unset, .unset, .unset, .unset, .unset, .unset, .unset, .unset, .unset, .unset] [(.long q2)])) rfl (hb hby at_19) _ k) ?_
  show Goes p e below s _ _ _ (s₁.setTop (mkF m 22 #[.val (.int p0), .val (.int p1), .val (.long q2), .second, .val (.long q3), .second, .val (.long q4), .second, .val (.int p5), .val (.long lim), .second, .val (.long per), .second, .unset, .unset, .unset, .unset, .unset, .unset, .unset, .unset, .unset, .unset, .unset, .unset, .unset, .unset, .unset, .unset, .unset, .unset, .unset] [(.long (9223372036854775807 : Int64)), (.long q2)]))
  refine Goes.go (fun _ k => XS.land X0.here hx rfl (hb hby at_22) rfl k) ?_
  show Goes p e below s _ _ _ (s₁.setTop (mkF m 23 #[.val (.int p0), .val (.int p1), .val (.long q2), .second, .val (.long q3), .second, .val (.long q4), .second, .val (.int p5), .val (.long lim), .second, .val (.long per), .second, .unset, .unset, .unset, .unset, .unset, .unset, .unset, .unset, .unset, .unset, .unset, .unset, .unset, .unset, .unset, .unset, .unset, .unset, .unset] [(.long (q2 &&& (9223372036854775807 : Int64)))]))
  refine Goes.go (fun _ k => X0.ldc2Long hx hown (mvT hZ (hw _ (List.mem_of_getElem? (i := 1) rfl))) (g := (mkF m 23 #[.val (.int p0), .val (.int p1), .val (.long q2), .second, .val (.long q3), .second, .val (.long q4), .second, .val (.int p5), .val (.long lim), .second, .val (.long per), .second, .unset, .unset, .unset, .unset, .unset, .unset, .unset, .unset, .unset, .unset, .unset, .unset, .unset, .unset, .unset, .unset, .unset, .unset, .unset] [(.long (q2 &&& (9223372036854775807 : Int64)))])) rfl (hb hby at_23) _ k) ?_
  show Goes p e below s _ _ _ (s₁.setTop (mkF m 26 #[.val (.int p0), .val (.int p1), .val (.long q2), .second, .val (.long q3), .second, .val (.long q4), .second, .val (.int p5), .val (.long lim), .second, .val (.long per), .second, .unset, .unset, .unset, .unset, .unset, .unset, .unset, .unset, .unset, .unset, .unset, .unset, .unset, .unset, .unset, .unset, .unset, .unset, .unset] [(.long (9223372036854775807 : Int64)), (.long (q2 &&& (9223372036854775807 : Int64)))]))
  refine Goes.go (fun _ k => XS.lload X0.here hx rfl (hb hby at_26) rfl  k) ?_
  show Goes p e below s _ _ _ (s₁.setTop (mkF m 28 #[.val (.int p0), .val (.int p1), .val (.long q2), .second, .val (.long q3), .second, .val (.long q4), .second, .val (.int p5), .val (.long lim), .second, .val (.long per), .second, .unset, .unset, .unset, .unset, .unset, .unset, .unset, .unset, .unset, .unset, .unset, .unset, .unset, .unset, .unset, .unset, .unset, .unset, .unset] [(.long per), (.long (9223372036854775807 : Int64)), (.long (q2 &&& (9223372036854775807 : Int64)))]))
  refine Goes.go (fun _ k => XS.ldiv X0.here hx rfl (hb hby at_28) rfl hper0 k) ?_
  show Goes p e below s _ _ _ (s₁.setTop (mkF m 29 #[.val (.int p0), .val (.int p1), .val (.long q2), .second, .val (.long q3), .second, .val (.long q4), .second, .val (.int p5), .val (.long lim), .second, .val (.long per), .second, .unset, .unset, .unset, .unset, .unset, .unset, .unset, .unset, .unset, .unset, .unset, .unset, .unset, .unset, .unset, .unset, .unset, .unset, .unset] [(.long ((9223372036854775807 : Int64) / per)), (.long (q2 &&& (9223372036854775807 : Int64)))]))
  refine Goes.go (fun _ k => own_lrem X0.here hx rfl (hb hby at_29) rfl hq0 k) ?_
  show Goes p e below s _ _ _ (s₁.setTop (mkF m 30 #[.val (.int p0), .val (.int p1), .val (.long q2), .second, .val (.long q3), .second, .val (.long q4), .second, .val (.int p5), .val (.long lim), .second, .val (.long per), .second, .unset, .unset, .unset, .unset, .unset, .unset, .unset, .unset, .unset, .unset, .unset, .unset, .unset, .unset, .unset, .unset, .unset, .unset, .unset] [(.long ((q2 &&& (9223372036854775807 : Int64)) % ((9223372036854775807 : Int64) / per)))]))
  refine Goes.go (fun _ k => XS.lconst X0.here hx rfl (hb hby at_30) k) ?_
  show Goes p e below s _ _ _ (s₁.setTop (mkF m 31 #[.val (.int p0), .val (.int p1), .val (.long q2), .second, .val (.long q3), .second, .val (.long q4), .second, .val (.int p5), .val (.long lim), .second, .val (.long per), .second, .unset, .unset, .unset, .unset, .unset, .unset, .unset, .unset, .unset, .unset, .unset, .unset, .unset, .unset, .unset, .unset, .unset, .unset, .unset] [(.long (1 : Int64)), (.long ((q2 &&& (9223372036854775807 : Int64)) % ((9223372036854775807 : Int64) / per)))]))
  refine Goes.go (fun _ k => XS.ladd X0.here hx rfl (hb hby at_31) rfl k) ?_
  show Goes p e below s _ _ _ (s₁.setTop (mkF m 32 #[.val (.int p0), .val (.int p1), .val (.long q2), .second, .val (.long q3), .second, .val (.long q4), .second, .val (.int p5), .val (.long lim), .second, .val (.long per), .second, .unset, .unset, .unset, .unset, .unset, .unset, .unset, .unset, .unset, .unset, .unset, .unset, .unset, .unset, .unset, .unset, .unset, .unset, .unset] [(.long (((q2 &&& (9223372036854775807 : Int64)) % ((9223372036854775807 : Int64) / per)) + (1 : Int64)))]))
  refine Goes.go (fun _ k => XS.lstore X0.here hx rfl (hb hby at_32) rfl (l' := #[.val (.int p0), .val (.int p1), .val (.long q2), .second, .val (.long q3), .second, .val (.long q4), .second, .val (.int p5), .val (.long lim), .second, .val (.long per), .second, .val (.long (((q2 &&& (9223372036854775807 : Int64)) % ((9223372036854775807 : Int64) / per)) + (1 : Int64))), .second, .unset, .unset, .unset, .unset, .unset, .unset, .unset, .unset, .unset, .unset, .unset, .unset, .unset, .unset, .unset, .unset, .unset]) rfl k) ?_
  show Goes p e below s _ _ _ (s₁.setTop (mkF m 34 #[.val (.int p0), .val (.int p1), .val (.long q2), .second, .val (.long q3), .second, .val (.long q4), .second, .val (.int p5), .val (.long lim), .second, .val (.long per), .second, .val (.long (((q2 &&& (9223372036854775807 : Int64)) % ((9223372036854775807 : Int64) / per)) + (1 : Int64))), .second, .unset, .unset, .unset, .unset, .unset, .unset, .unset, .unset, .unset, .unset, .unset, .unset, .unset, .unset, .unset, .unset, .unset] []))
  generalize d_bur : (((q2 &&& (9223372036854775807 : Int64)) % ((9223372036854775807 : Int64) / per)) + (1 : Int64)) = bur
  have hb := own_bur q2 hper hper2
  rw [d_bur] at hb
  obtain ⟨hbur, hbp⟩ := hb
  show Goes p e below s _ _ _ (s₁.setTop (mkF m 34 #[.val (.int p0), .val (.int p1), .val (.long q2), .second, .val (.long q3), .second, .val (.long q4), .second, .val (.int p5), .val (.long lim), .second, .val (.long per), .second, .val (.long bur), .second, .unset, .unset, .unset, .unset, .unset, .unset, .unset, .unset, .unset, .unset, .unset, .unset, .unset, .unset, .unset, .unset, .unset] []))
  obtain ⟨T1, h1, X1, e1, E1, A1, D1, -, st1⟩ := newO X0 hx hZ hown (hw _ (List.mem_of_getElem? (i := 2) rfl)) (hw _ (List.mem_of_getElem? (i := 3) rfl)) (hw _ (List.mem_of_getElem? (i := 4) rfl)) e0 (g := (mkF m 34 #[.val (.int p0), .val (.int p1), .val (.long q2), .second, .val (.long q3), .second, .val (.long q4), .second, .val (.int p5), .val (.long lim), .second, .val (.long per), .second, .val (.long bur), .second, .unset, .unset, .unset, .unset, .unset, .unset, .unset, .unset, .unset, .unset, .unset, .unset, .unset, .unset, .unset, .unset, .unset] [])) rfl (hb hby at_34) (by decide) (by decide)
  obtain ⟨b1, g1⟩ : ∃ z, z = h0.size := ⟨_, rfl⟩
  rw [← g1] at A1 D1 st1
  have gb1 : n0 ≤ b1 := Nat.le_trans Z0 (Nat.le_of_eq g1.symm)
  have sb1 : h0.size ≤ b1 := Nat.le_trans K0.1 (Nat.le_of_eq g1.symm)
  have Z1 := Nat.le_trans Z0 E1.1
  have K1 := Keep.ext K0 E1
  have F1_limit : Fld Z h1 b1 "com/example/danaid/danaid/TokenBucketUnits" "limit" "J" (.long (0 : Int64)) := D1 (Or.inr (hw _ (List.mem_of_getElem? (i := 15) rfl))) (ty := .long) (by decide)
  have F1_periodMillis : Fld Z h1 b1 "com/example/danaid/danaid/TokenBucketUnits" "periodMillis" "J" (.long (0 : Int64)) := D1 (Or.inr (hw _ (List.mem_of_getElem? (i := 17) rfl))) (ty := .long) (by decide)
  have F1_burst : Fld Z h1 b1 "com/example/danaid/danaid/TokenBucketUnits" "burst" "J" (.long (0 : Int64)) := D1 (Or.inr (hw _ (List.mem_of_getElem? (i := 19) rfl))) (ty := .long) (by decide)
  have F1_perToken : Fld Z h1 b1 "com/example/danaid/danaid/TokenBucketUnits" "perToken" "J" (.long (0 : Int64)) := D1 (Or.inr (hw _ (List.mem_of_getElem? (i := 21) rfl))) (ty := .long) (by decide)
  have F1_perMilli : Fld Z h1 b1 "com/example/danaid/danaid/TokenBucketUnits" "perMilli" "J" (.long (0 : Int64)) := D1 (Or.inr (hw _ (List.mem_of_getElem? (i := 23) rfl))) (ty := .long) (by decide)
  have F1_capacity : Fld Z h1 b1 "com/example/danaid/danaid/TokenBucketUnits" "capacity" "J" (.long (0 : Int64)) := D1 (Or.inr (hw _ (List.mem_of_getElem? (i := 32) rfl))) (ty := .long) (by decide)
  have F1_fillMillis : Fld Z h1 b1 "com/example/danaid/danaid/TokenBucketUnits" "fillMillis" "J" (.long (0 : Int64)) := D1 (Or.inr (hw _ (List.mem_of_getElem? (i := 34) rfl))) (ty := .long) (by decide)
  refine Goes.go st1 ?_
  show Goes p e below s _ _ _ (T1.setTop (mkF m 37 #[.val (.int p0), .val (.int p1), .val (.long q2), .second, .val (.long q3), .second, .val (.long q4), .second, .val (.int p5), .val (.long lim), .second, .val (.long per), .second, .val (.long bur), .second, .unset, .unset, .unset, .unset, .unset, .unset, .unset, .unset, .unset, .unset, .unset, .unset, .unset, .unset, .unset, .unset, .unset] [(.ref b1)]))
  refine Goes.go (fun _ k => XS.dup X1.here hx rfl (hb hby at_37) rfl rfl k) ?_
  show Goes p e below s _ _ _ (T1.setTop (mkF m 38 #[.val (.int p0), .val (.int p1), .val (.long q2), .second, .val (.long q3), .second, .val (.long q4), .second, .val (.int p5), .val (.long lim), .second, .val (.long per), .second, .val (.long bur), .second, .unset, .unset, .unset, .unset, .unset, .unset, .unset, .unset, .unset, .unset, .unset, .unset, .unset, .unset, .unset, .unset, .unset] [(.ref b1), (.ref b1)]))
  refine Goes.go (fun _ k => XS.lload X1.here hx rfl (hb hby at_38) rfl  k) ?_
  show Goes p e below s _ _ _ (T1.setTop (mkF m 40 #[.val (.int p0), .val (.int p1), .val (.long q2), .second, .val (.long q3), .second, .val (.long q4), .second, .val (.int p5), .val (.long lim), .second, .val (.long per), .second, .val (.long bur), .second, .unset, .unset, .unset, .unset, .unset, .unset, .unset, .unset, .unset, .unset, .unset, .unset, .unset, .unset, .unset, .unset, .unset] [(.long lim), (.ref b1), (.ref b1)]))
  refine Goes.go (fun _ k => XS.lload X1.here hx rfl (hb hby at_40) rfl  k) ?_
  show Goes p e below s _ _ _ (T1.setTop (mkF m 42 #[.val (.int p0), .val (.int p1), .val (.long q2), .second, .val (.long q3), .second, .val (.long q4), .second, .val (.int p5), .val (.long lim), .second, .val (.long per), .second, .val (.long bur), .second, .unset, .unset, .unset, .unset, .unset, .unset, .unset, .unset, .unset, .unset, .unset, .unset, .unset, .unset, .unset, .unset, .unset] [(.long per), (.long lim), (.ref b1), (.ref b1)]))
  refine Goes.go (fun _ k => XS.lload X1.here hx rfl (hb hby at_42) rfl  k) ?_
  show Goes p e below s _ _ _ (T1.setTop (mkF m 44 #[.val (.int p0), .val (.int p1), .val (.long q2), .second, .val (.long q3), .second, .val (.long q4), .second, .val (.int p5), .val (.long lim), .second, .val (.long per), .second, .val (.long bur), .second, .unset, .unset, .unset, .unset, .unset, .unset, .unset, .unset, .unset, .unset, .unset, .unset, .unset, .unset, .unset, .unset, .unset] [(.long bur), (.long per), (.long lim), (.ref b1), (.ref b1)]))
  obtain ⟨_, _, ⟨T2, L2, k2, n2⟩, -, X2, ⟨Lc2, hQ2, l2, y2, z2⟩, st2⟩ := X1.specialBackH hx (y := (⟨"com/example/danaid/danaid/TokenBucketUnits", "<init>", "(JJJ)V"⟩ : MethodName)) rfl hown (mvT hZ (hw _ (List.mem_of_getElem? (i := 5) rfl))) (mvT hZ (hw _ (List.mem_of_getElem? (i := 6) rfl))) (mvT hZ (hw _ (List.mem_of_getElem? (i := 7) rfl))) (by decide) (backOfWith (W := 1) (rm1 l Z a0 hw [] b1 lim per bur h1 n0 Z1 A1 gb1 F1_limit F1_periodMillis F1_burst F1_perToken F1_perMilli F1_capacity F1_fillMillis hlim hper hbur hbp) hZ (hw _ (List.mem_of_getElem? (i := 7) rfl)) (hw _ (List.mem_of_getElem? (i := 4) rfl)) (by decide) (by decide)) (g := (mkF m 44 #[.val (.int p0), .val (.int p1), .val (.long q2), .second, .val (.long q3), .second, .val (.long q4), .second, .val (.int p5), .val (.long lim), .second, .val (.long per), .second, .val (.long bur), .second, .unset, .unset, .unset, .unset, .unset, .unset, .unset, .unset, .unset, .unset, .unset, .unset, .unset, .unset, .unset, .unset, .unset] [(.long bur), (.long per), (.long lim), (.ref b1), (.ref b1)])) rfl (by rw [hml]; rfl) (Steps.refl _) (a := b1) (argsL := [(.long lim), (.long per), (.long bur)]) (rest := [(.ref b1)]) (lenOf pd_2 rfl) rfl (by show 2 * 0 + _ ≤ _; exact Nat.le_of_eq rfl) (hb hby at_44) (fun _ _ => ⟨rfl, e1, (by decide : 1 + 0 ≤ _), (by decide : 7 + 0 ≤ _)⟩)
  dsimp only [Pt.U, Pt.locs, Pt.cells, Pt.slots] at X2 l2 y2 z2 st2 hQ2
  subst l2 y2 z2
  obtain ⟨h2, e2⟩ : ∃ z, T2.heap = z := ⟨_, rfl⟩
  rw [e2] at hQ2
  obtain ⟨rfl, N2q, Kq2, G2_0, G2_1, G2_2, G2_3, G2_4, G2_5, G2_6, G2_7⟩ := hQ2
  have N2 := Fr.app N0 N2q
  have K2 := Keep.trans K1 Kq2 (allS (Or.inr sb1) all0)
  have Z2 := Nat.le_trans Z1 Kq2.1
  refine Goes.tr st2 ?_
  show Goes p e below s _ _ _ (T2.setTop (mkF m 47 #[.val (.int p0), .val (.int p1), .val (.long q2), .second, .val (.long q3), .second, .val (.long q4), .second, .val (.int p5), .val (.long lim), .second, .val (.long per), .second, .val (.long bur), .second, .unset, .unset, .unset, .unset, .unset, .unset, .unset, .unset, .unset, .unset, .unset, .unset, .unset, .unset, .unset, .unset, .unset] [(.ref b1)]))
  refine Goes.go (fun _ k => XS.astore X2.here hx rfl (hb hby at_47) rfl rfl (l' := #[.val (.int p0), .val (.int p1), .val (.long q2), .second, .val (.long q3), .second, .val (.long q4), .second, .val (.int p5), .val (.long lim), .second, .val (.long per), .second, .val (.long bur), .second, .val (.ref b1), .unset, .unset, .unset, .unset, .unset, .unset, .unset, .unset, .unset, .unset, .unset, .unset, .unset, .unset, .unset, .unset]) rfl k) ?_
  show Goes p e below s _ _ _ (T2.setTop (mkF m 49 #[.val (.int p0), .val (.int p1), .val (.long q2), .second, .val (.long q3), .second, .val (.long q4), .second, .val (.int p5), .val (.long lim), .second, .val (.long per), .second, .val (.long bur), .second, .val (.ref b1), .unset, .unset, .unset, .unset, .unset, .unset, .unset, .unset, .unset, .unset, .unset, .unset, .unset, .unset, .unset, .unset] []))
  refine Goes.go (fun _ k => XS.aload X2.here hx rfl (hb hby at_49) rfl rfl  k) ?_
  show Goes p e below s _ _ _ (T2.setTop (mkF m 51 #[.val (.int p0), .val (.int p1), .val (.long q2), .second, .val (.long q3), .second, .val (.long q4), .second, .val (.int p5), .val (.long lim), .second, .val (.long per), .second, .val (.long bur), .second, .val (.ref b1), .unset, .unset, .unset, .unset, .unset, .unset, .unset, .unset, .unset, .unset, .unset, .unset, .unset, .unset, .unset, .unset] [(.ref b1)]))
  obtain ⟨cq3, kq3, q3a, q3b, q3c⟩ := isOf hZ e2 G2_0
  obtain ⟨_, _, ⟨T3, L3, k3, n3⟩, -, X3, ⟨Lc3, hQ3, l3, y3, z3⟩, st3⟩ := X2.virtualBack hx (y := (⟨"com/example/danaid/danaid/TokenBucketUnits", "capacity", "()J"⟩ : MethodName)) (z := (⟨"com/example/danaid/danaid/TokenBucketUnits", "capacity", "()J"⟩ : MethodName)) hown (mvT hZ (hw _ (List.mem_of_getElem? (i := 35) rfl))) (mvT hZ (hw _ (List.mem_of_getElem? (i := 36) rfl))) (notFace_of_selects (args := #[]) (mvT hZ (hw _ (List.mem_of_getElem? (i := 38) rfl)))) (mvT hZ (hw _ (List.mem_of_getElem? (i := 38) rfl))) (mvT hZ (hw _ (List.mem_of_getElem? (i := 37) rfl))) (by decide) (backOf (W := 0) (rm6 l Z a0 hw [] b1 (bur * (per / (own_g lim per))) h2 n0 Z2 G2_6) hZ (hw _ (List.mem_of_getElem? (i := 39) rfl)) (hw _ (List.mem_of_getElem? (i := 4) rfl)) (by decide) (by decide)) q3a q3c (g := (mkF m 51 #[.val (.int p0), .val (.int p1), .val (.long q2), .second, .val (.long q3), .second, .val (.long q4), .second, .val (.int p5), .val (.long lim), .second, .val (.long per), .second, .val (.long bur), .second, .val (.ref b1), .unset, .unset, .unset, .unset, .unset, .unset, .unset, .unset, .unset, .unset, .unset, .unset, .unset, .unset, .unset, .unset] [(.ref b1)])) rfl (by rw [hml]; rfl) (Steps.refl _) (argsL := []) (rest := []) (lenOf pd_3 rfl) rfl (by show 2 * 0 + _ ≤ _; exact Nat.le_of_eq rfl) (hb hby at_51) (fun _ _ => ⟨rfl, e2, (by decide : 1 + 0 ≤ _), (by decide : 7 + 0 ≤ _)⟩)
  dsimp only [Pt.U, Pt.locs, Pt.cells, Pt.slots] at X3 l3 y3 z3 st3 hQ3
  subst l3 y3 z3
  obtain ⟨rfl, N3q, e3⟩ := hQ3
  have N3 := Fr.app N2 N3q
  refine Goes.tr st3 ?_
  show Goes p e below s _ _ _ (T3.setTop (mkF m 54 #[.val (.int p0), .val (.int p1), .val (.long q2), .second, .val (.long q3), .second, .val (.long q4), .second, .val (.int p5), .val (.long lim), .second, .val (.long per), .second, .val (.long bur), .second, .val (.ref b1), .unset, .unset, .unset, .unset, .unset, .unset, .unset, .unset, .unset, .unset, .unset, .unset, .unset, .unset, .unset, .unset] [(.long (f6 b1 (bur * (per / (own_g lim per)))))]))
  refine Goes.go (fun _ k => XS.lstore X3.here hx rfl (hb hby at_54) rfl (l' := #[.val (.int p0), .val (.int p1), .val (.long q2), .second, .val (.long q3), .second, .val (.long q4), .second, .val (.int p5), .val (.long lim), .second, .val (.long per), .second, .val (.long bur), .second, .val (.ref b1), .val (.long (f6 b1 (bur * (per / (own_g lim per))))), .second, .unset, .unset, .unset, .unset, .unset, .unset, .unset, .unset, .unset, .unset, .unset, .unset, .unset, .unset]) rfl k) ?_
  show Goes p e below s _ _ _ (T3.setTop (mkF m 56 #[.val (.int p0), .val (.int p1), .val (.long q2), .second, .val (.long q3), .second, .val (.long q4), .second, .val (.int p5), .val (.long lim), .second, .val (.long per), .second, .val (.long bur), .second, .val (.ref b1), .val (.long (f6 b1 (bur * (per / (own_g lim per))))), .second, .unset, .unset, .unset, .unset, .unset, .unset, .unset, .unset, .unset, .unset, .unset, .unset, .unset, .unset] []))
  generalize d_cap : (f6 b1 (bur * (per / (own_g lim per)))) = cap
  have ecap : (bur * (per / (own_g lim per))) = cap := d_cap
  show Goes p e below s _ _ _ (T3.setTop (mkF m 56 #[.val (.int p0), .val (.int p1), .val (.long q2), .second, .val (.long q3), .second, .val (.long q4), .second, .val (.int p5), .val (.long lim), .second, .val (.long per), .second, .val (.long bur), .second, .val (.ref b1), .val (.long cap), .second, .unset, .unset, .unset, .unset, .unset, .unset, .unset, .unset, .unset, .unset, .unset, .unset, .unset, .unset] []))
  refine Goes.go (fun _ k => XS.aload X3.here hx rfl (hb hby at_56) rfl rfl  k) ?_
  show Goes p e below s _ _ _ (T3.setTop (mkF m 58 #[.val (.int p0), .val (.int p1), .val (.long q2), .second, .val (.long q3), .second, .val (.long q4), .second, .val (.int p5), .val (.long lim), .second, .val (.long per), .second, .val (.long bur), .second, .val (.ref b1), .val (.long cap), .second, .unset, .unset, .unset, .unset, .unset, .unset, .unset, .unset, .unset, .unset, .unset, .unset, .unset, .unset] [(.ref b1)]))
  obtain ⟨cq4, kq4, q4a, q4b, q4c⟩ := isOf hZ e3 G2_0
  obtain ⟨_, _, ⟨T4, L4, k4, n4⟩, -, X4, ⟨Lc4, hQ4, l4, y4, z4⟩, st4⟩ := X3.virtualBack hx (y := (⟨"com/example/danaid/danaid/TokenBucketUnits", "perToken", "()J"⟩ : MethodName)) (z := (⟨"com/example/danaid/danaid/TokenBucketUnits", "perToken", "()J"⟩ : MethodName)) hown (mvT hZ (hw _ (List.mem_of_getElem? (i := 40) rfl))) (mvT hZ (hw _ (List.mem_of_getElem? (i := 41) rfl))) (notFace_of_selects (args := #[]) (mvT hZ (hw _ (List.mem_of_getElem? (i := 43) rfl)))) (mvT hZ (hw _ (List.mem_of_getElem? (i := 43) rfl))) (mvT hZ (hw _ (List.mem_of_getElem? (i := 42) rfl))) (by decide) (backOf (W := 0) (rm7 l Z a0 hw [] b1 (per / (own_g lim per)) h2 n0 Z2 G2_4) hZ (hw _ (List.mem_of_getElem? (i := 44) rfl)) (hw _ (List.mem_of_getElem? (i := 4) rfl)) (by decide) (by decide)) q4a q4c (g := (mkF m 58 #[.val (.int p0), .val (.int p1), .val (.long q2), .second, .val (.long q3), .second, .val (.long q4), .second, .val (.int p5), .val (.long lim), .second, .val (.long per), .second, .val (.long bur), .second, .val (.ref b1), .val (.long cap), .second, .unset, .unset, .unset, .unset, .unset, .unset, .unset, .unset, .unset, .unset, .unset, .unset, .unset, .unset] [(.ref b1)])) rfl (by rw [hml]; rfl) (Steps.refl _) (argsL := []) (rest := []) (lenOf pd_3 rfl) rfl (by show 2 * 0 + _ ≤ _; exact Nat.le_of_eq rfl) (hb hby at_58) (fun _ _ => ⟨rfl, e3, (by decide : 1 + 0 ≤ _), (by decide : 7 + 0 ≤ _)⟩)
  dsimp only [Pt.U, Pt.locs, Pt.cells, Pt.slots] at X4 l4 y4 z4 st4 hQ4
  subst l4 y4 z4
  obtain ⟨rfl, N4q, e4⟩ := hQ4
  have N4 := Fr.app N3 N4q
  refine Goes.tr st4 ?_
  show Goes p e below s _ _ _ (T4.setTop (mkF m 61 #[.val (.int p0), .val (.int p1), .val (.long q2), .second, .val (.long q3), .second, .val (.long q4), .second, .val (.int p5), .val (.long lim), .second, .val (.long per), .second, .val (.long bur), .second, .val (.ref b1), .val (.long cap), .second, .unset, .unset, .unset, .unset, .unset, .unset, .unset, .unset, .unset, .unset, .unset, .unset, .unset, .unset] [(.long (f7 b1 (per / (own_g lim per))))]))
  refine Goes.go (fun _ k => XS.lstore X4.here hx rfl (hb hby at_61) rfl (l' := #[.val (.int p0), .val (.int p1), .val (.long q2), .second, .val (.long q3), .second, .val (.long q4), .second, .val (.int p5), .val (.long lim), .second, .val (.long per), .second, .val (.long bur), .second, .val (.ref b1), .val (.long cap), .second, .val (.long (f7 b1 (per / (own_g lim per)))), .second, .unset, .unset, .unset, .unset, .unset, .unset, .unset, .unset, .unset, .unset, .unset, .unset]) rfl k) ?_
  show Goes p e below s _ _ _ (T4.setTop (mkF m 63 #[.val (.int p0), .val (.int p1), .val (.long q2), .second, .val (.long q3), .second, .val (.long q4), .second, .val (.int p5), .val (.long lim), .second, .val (.long per), .second, .val (.long bur), .second, .val (.ref b1), .val (.long cap), .second, .val (.long (f7 b1 (per / (own_g lim per)))), .second, .unset, .unset, .unset, .unset, .unset, .unset, .unset, .unset, .unset, .unset, .unset, .unset] []))
  generalize d_pt : (f7 b1 (per / (own_g lim per))) = pt
  have ept : (per / (own_g lim per)) = pt := d_pt
  obtain ⟨hpt, hcap⟩ := own_units hlim hper hbur hbp
  rw [ept] at hpt hcap
  rw [ept] at ecap
  rw [ecap] at hcap
  have hpt0 := own_nz hpt
  have hcp : 0 < cap.toInt := by rw [hcap]; exact Int.mul_pos hbur hpt
  have hcp0 := own_nz hcp
  show Goes p e below s _ _ _ (T4.setTop (mkF m 63 #[.val (.int p0), .val (.int p1), .val (.long q2), .second, .val (.long q3), .second, .val (.long q4), .second, .val (.int p5), .val (.long lim), .second, .val (.long per), .second, .val (.long bur), .second, .val (.ref b1), .val (.long cap), .second, .val (.long pt), .second, .unset, .unset, .unset, .unset, .unset, .unset, .unset, .unset, .unset, .unset, .unset, .unset] []))
  refine Goes.go (fun _ k => XS.lload X4.here hx rfl (hb hby at_63) rfl  k) ?_
  show Goes p e below s _ _ _ (T4.setTop (mkF m 65 #[.val (.int p0), .val (.int p1), .val (.long q2), .second, .val (.long q3), .second, .val (.long q4), .second, .val (.int p5), .val (.long lim), .second, .val (.long per), .second, .val (.long bur), .second, .val (.ref b1), .val (.long cap), .second, .val (.long pt), .second, .unset, .unset, .unset, .unset, .unset, .unset, .unset, .unset, .unset, .unset, .unset, .unset] [(.long q3)]))
  refine Goes.go (fun _ k => X4.ldc2Long hx hown (mvT hZ (hw _ (List.mem_of_getElem? (i := 1) rfl))) (g := (mkF m 65 #[.val (.int p0), .val (.int p1), .val (.long q2), .second, .val (.long q3), .second, .val (.long q4), .second, .val (.int p5), .val (.long lim), .second, .val (.long per), .second, .val (.long bur), .second, .val (.ref b1), .val (.long cap), .second, .val (.long pt), .second, .unset, .unset, .unset, .unset, .unset, .unset, .unset, .unset, .unset, .unset, .unset, .unset] [(.long q3)])) rfl (hb hby at_65) _ k) ?_
  show Goes p e below s _ _ _ (T4.setTop (mkF m 68 #[.val (.int p0), .val (.int p1), .val (.long q2), .second, .val (.long q3), .second, .val (.long q4), .second, .val (.int p5), .val (.long lim), .second, .val (.long per), .second, .val (.long bur), .second, .val (.ref b1), .val (.long cap), .second, .val (.long pt), .second, .unset, .unset, .unset, .unset, .unset, .unset, .unset, .unset, .unset, .unset, .unset, .unset] [(.long (9223372036854775807 : Int64)), (.long q3)]))
  refine Goes.go (fun _ k => XS.land X4.here hx rfl (hb hby at_68) rfl k) ?_
  show Goes p e below s _ _ _ (T4.setTop (mkF m 69 #[.val (.int p0), .val (.int p1), .val (.long q2), .second, .val (.long q3), .second, .val (.long q4), .second, .val (.int p5), .val (.long lim), .second, .val (.long per), .second, .val (.long bur), .second, .val (.ref b1), .val (.long cap), .second, .val (.long pt), .second, .unset, .unset, .unset, .unset, .unset, .unset, .unset, .unset, .unset, .unset, .unset, .unset] [(.long (q3 &&& (9223372036854775807 : Int64)))]))
  refine Goes.go (fun _ k => XS.lstore X4.here hx rfl (hb hby at_69) rfl (l' := #[.val (.int p0), .val (.int p1), .val (.long q2), .second, .val (.long q3), .second, .val (.long q4), .second, .val (.int p5), .val (.long lim), .second, .val (.long per), .second, .val (.long bur), .second, .val (.ref b1), .val (.long cap), .second, .val (.long pt), .second, .val (.long (q3 &&& (9223372036854775807 : Int64))), .second, .unset, .unset, .unset, .unset, .unset, .unset, .unset, .unset, .unset, .unset]) rfl k) ?_
  show Goes p e below s _ _ _ (T4.setTop (mkF m 71 #[.val (.int p0), .val (.int p1), .val (.long q2), .second, .val (.long q3), .second, .val (.long q4), .second, .val (.int p5), .val (.long lim), .second, .val (.long per), .second, .val (.long bur), .second, .val (.ref b1), .val (.long cap), .second, .val (.long pt), .second, .val (.long (q3 &&& (9223372036854775807 : Int64))), .second, .unset, .unset, .unset, .unset, .unset, .unset, .unset, .unset, .unset, .unset] []))
  generalize d_mm : (q3 &&& (9223372036854775807 : Int64)) = mm
  have hmm : 0 ≤ mm.toInt := by rw [← d_mm]; exact own_nn _
  show Goes p e below s _ _ _ (T4.setTop (mkF m 71 #[.val (.int p0), .val (.int p1), .val (.long q2), .second, .val (.long q3), .second, .val (.long q4), .second, .val (.int p5), .val (.long lim), .second, .val (.long per), .second, .val (.long bur), .second, .val (.ref b1), .val (.long cap), .second, .val (.long pt), .second, .val (.long mm), .second, .unset, .unset, .unset, .unset, .unset, .unset, .unset, .unset, .unset, .unset] []))
  refine Goes.go (fun _ k => XS.iload X4.here hx rfl (hb hby at_71) rfl  k) ?_
  show Goes p e below s _ _ _ (T4.setTop (mkF m 73 #[.val (.int p0), .val (.int p1), .val (.long q2), .second, .val (.long q3), .second, .val (.long q4), .second, .val (.int p5), .val (.long lim), .second, .val (.long per), .second, .val (.long bur), .second, .val (.ref b1), .val (.long cap), .second, .val (.long pt), .second, .val (.long mm), .second, .unset, .unset, .unset, .unset, .unset, .unset, .unset, .unset, .unset, .unset] [(.int p5)]))
  refine Goes.go (fun _ k => XS.iconst X4.here hx rfl (hb hby at_73) k) ?_
  show Goes p e below s _ _ _ (T4.setTop (mkF m 74 #[.val (.int p0), .val (.int p1), .val (.long q2), .second, .val (.long q3), .second, .val (.long q4), .second, .val (.int p5), .val (.long lim), .second, .val (.long per), .second, .val (.long bur), .second, .val (.ref b1), .val (.long cap), .second, .val (.long pt), .second, .val (.long mm), .second, .unset, .unset, .unset, .unset, .unset, .unset, .unset, .unset, .unset, .unset] [(.int (3 : Int32)), (.int p5)]))
  refine Goes.go (fun _ k => XS.iand X4.here hx rfl (hb hby at_74) rfl k) ?_
  show Goes p e below s _ _ _ (T4.setTop (mkF m 75 #[.val (.int p0), .val (.int p1), .val (.long q2), .second, .val (.long q3), .second, .val (.long q4), .second, .val (.int p5), .val (.long lim), .second, .val (.long per), .second, .val (.long bur), .second, .val (.ref b1), .val (.long cap), .second, .val (.long pt), .second, .val (.long mm), .second, .unset, .unset, .unset, .unset, .unset, .unset, .unset, .unset, .unset, .unset] [(.int (p5 &&& (3 : Int32)))]))
  refine Goes.go (fun _ k => XS.istore X4.here hx rfl (hb hby at_75) rfl (l' := #[.val (.int p0), .val (.int p1), .val (.long q2), .second, .val (.long q3), .second, .val (.long q4), .second, .val (.int p5), .val (.long lim), .second, .val (.long per), .second, .val (.long bur), .second, .val (.ref b1), .val (.long cap), .second, .val (.long pt), .second, .val (.long mm), .second, .val (.int (p5 &&& (3 : Int32))), .unset, .unset, .unset, .unset, .unset, .unset, .unset, .unset, .unset]) rfl k) ?_
  show Goes p e below s _ _ _ (T4.setTop (mkF m 77 #[.val (.int p0), .val (.int p1), .val (.long q2), .second, .val (.long q3), .second, .val (.long q4), .second, .val (.int p5), .val (.long lim), .second, .val (.long per), .second, .val (.long bur), .second, .val (.ref b1), .val (.long cap), .second, .val (.long pt), .second, .val (.long mm), .second, .val (.int (p5 &&& (3 : Int32))), .unset, .unset, .unset, .unset, .unset, .unset, .unset, .unset, .unset] []))
  refine Goes.go (fun _ k => XS.iload X4.here hx rfl (hb hby at_77) rfl  k) ?_
  show Goes p e below s _ _ _ (T4.setTop (mkF m 79 #[.val (.int p0), .val (.int p1), .val (.long q2), .second, .val (.long q3), .second, .val (.long q4), .second, .val (.int p5), .val (.long lim), .second, .val (.long per), .second, .val (.long bur), .second, .val (.ref b1), .val (.long cap), .second, .val (.long pt), .second, .val (.long mm), .second, .val (.int (p5 &&& (3 : Int32))), .unset, .unset, .unset, .unset, .unset, .unset, .unset, .unset, .unset] [(.int (p5 &&& (3 : Int32)))]))
  obtain ⟨z5_l23, hz5_l23⟩ : ∃ z : Int64, z = if (p5 &&& (3 : Int32)) = (0 : Int32) then mm else (if (p5 &&& (3 : Int32)) = (1 : Int32) then (mm % cap) else (cap - (mm % cap))) := ⟨_, rfl⟩
  have sm5 : ∀ t, Steps p.tables e below (T4.setTop (mkF m 115 #[.val (.int p0), .val (.int p1), .val (.long q2), .second, .val (.long q3), .second, .val (.long q4), .second, .val (.int p5), .val (.long lim), .second, .val (.long per), .second, .val (.long bur), .second, .val (.ref b1), .val (.long cap), .second, .val (.long pt), .second, .val (.long mm), .second, .val (.int (p5 &&& (3 : Int32))), .val (.long z5_l23), .second, .unset, .unset, .unset, .unset, .unset, .unset, .unset] [])) t → Steps p.tables e below (T4.setTop (mkF m 79 #[.val (.int p0), .val (.int p1), .val (.long q2), .second, .val (.long q3), .second, .val (.long q4), .second, .val (.int p5), .val (.long lim), .second, .val (.long per), .second, .val (.long bur), .second, .val (.ref b1), .val (.long cap), .second, .val (.long pt), .second, .val (.long mm), .second, .val (.int (p5 &&& (3 : Int32))), .unset, .unset, .unset, .unset, .unset, .unset, .unset, .unset, .unset] [(.int (p5 &&& (3 : Int32)))])) t := by
    intro t k
    by_cases hc79_5 : (p5 &&& (3 : Int32)) = (0 : Int32)
    · have k2 : Steps p.tables e below (T4.setTop (mkF m 115 #[.val (.int p0), .val (.int p1), .val (.long q2), .second, .val (.long q3), .second, .val (.long q4), .second, .val (.int p5), .val (.long lim), .second, .val (.long per), .second, .val (.long bur), .second, .val (.ref b1), .val (.long cap), .second, .val (.long pt), .second, .val (.long mm), .second, .val (.int (p5 &&& (3 : Int32))), .val (.long mm), .second, .unset, .unset, .unset, .unset, .unset, .unset, .unset] [])) t := by simpa only [hz5_l23, if_pos hc79_5] using k
      show Steps p.tables e below (T4.setTop (mkF m 79 #[.val (.int p0), .val (.int p1), .val (.long q2), .second, .val (.long q3), .second, .val (.long q4), .second, .val (.int p5), .val (.long lim), .second, .val (.long per), .second, .val (.long bur), .second, .val (.ref b1), .val (.long cap), .second, .val (.long pt), .second, .val (.long mm), .second, .val (.int (p5 &&& (3 : Int32))), .unset, .unset, .unset, .unset, .unset, .unset, .unset, .unset, .unset] [(.int (p5 &&& (3 : Int32)))])) _
      refine XS.ifNo X4.here hx rfl (hb hby at_79) rfl ((if0 _ _).trans (teq hc79_5).2) ?_
      show Steps p.tables e below (T4.setTop (mkF m 82 #[.val (.int p0), .val (.int p1), .val (.long q2), .second, .val (.long q3), .second, .val (.long q4), .second, .val (.int p5), .val (.long lim), .second, .val (.long per), .second, .val (.long bur), .second, .val (.ref b1), .val (.long cap), .second, .val (.long pt), .second, .val (.long mm), .second, .val (.int (p5 &&& (3 : Int32))), .unset, .unset, .unset, .unset, .unset, .unset, .unset, .unset, .unset] [])) _
      refine XS.lload X4.here hx rfl (hb hby at_82) rfl  ?_
      show Steps p.tables e below (T4.setTop (mkF m 84 #[.val (.int p0), .val (.int p1), .val (.long q2), .second, .val (.long q3), .second, .val (.long q4), .second, .val (.int p5), .val (.long lim), .second, .val (.long per), .second, .val (.long bur), .second, .val (.ref b1), .val (.long cap), .second, .val (.long pt), .second, .val (.long mm), .second, .val (.int (p5 &&& (3 : Int32))), .unset, .unset, .unset, .unset, .unset, .unset, .unset, .unset, .unset] [(.long mm)])) _
      refine XS.lstore X4.here hx rfl (hb hby at_84) rfl (l' := #[.val (.int p0), .val (.int p1), .val (.long q2), .second, .val (.long q3), .second, .val (.long q4), .second, .val (.int p5), .val (.long lim), .second, .val (.long per), .second, .val (.long bur), .second, .val (.ref b1), .val (.long cap), .second, .val (.long pt), .second, .val (.long mm), .second, .val (.int (p5 &&& (3 : Int32))), .val (.long mm), .second, .unset, .unset, .unset, .unset, .unset, .unset, .unset]) rfl ?_
      show Steps p.tables e below (T4.setTop (mkF m 86 #[.val (.int p0), .val (.int p1), .val (.long q2), .second, .val (.long q3), .second, .val (.long q4), .second, .val (.int p5), .val (.long lim), .second, .val (.long per), .second, .val (.long bur), .second, .val (.ref b1), .val (.long cap), .second, .val (.long pt), .second, .val (.long mm), .second, .val (.int (p5 &&& (3 : Int32))), .val (.long mm), .second, .unset, .unset, .unset, .unset, .unset, .unset, .unset] [])) _
      refine XS.goto X4.here hx rfl (pc0 := 86) (pc' := 115) rfl (hb hby at_86) (by decide) (by decide) ?_
      exact k2
    · have k2 : Steps p.tables e below (T4.setTop (mkF m 115 #[.val (.int p0), .val (.int p1), .val (.long q2), .second, .val (.long q3), .second, .val (.long q4), .second, .val (.int p5), .val (.long lim), .second, .val (.long per), .second, .val (.long bur), .second, .val (.ref b1), .val (.long cap), .second, .val (.long pt), .second, .val (.long mm), .second, .val (.int (p5 &&& (3 : Int32))), .val (.long (if (p5 &&& (3 : Int32)) = (1 : Int32) then (mm % cap) else (cap - (mm % cap)))), .second, .unset, .unset, .unset, .unset, .unset, .unset, .unset] [])) t := by simpa only [hz5_l23, if_neg hc79_5] using k
      show Steps p.tables e below (T4.setTop (mkF m 79 #[.val (.int p0), .val (.int p1), .val (.long q2), .second, .val (.long q3), .second, .val (.long q4), .second, .val (.int p5), .val (.long lim), .second, .val (.long per), .second, .val (.long bur), .second, .val (.ref b1), .val (.long cap), .second, .val (.long pt), .second, .val (.long mm), .second, .val (.int (p5 &&& (3 : Int32))), .unset, .unset, .unset, .unset, .unset, .unset, .unset, .unset, .unset] [(.int (p5 &&& (3 : Int32)))])) _
      refine XS.ifYes X4.here hx rfl (pc0 := 79) (pc' := 89) rfl (hb hby at_79) rfl ((if0 _ _).trans (feq hc79_5).2) (by decide) (by decide) ?_
      show Steps p.tables e below (T4.setTop (mkF m 89 #[.val (.int p0), .val (.int p1), .val (.long q2), .second, .val (.long q3), .second, .val (.long q4), .second, .val (.int p5), .val (.long lim), .second, .val (.long per), .second, .val (.long bur), .second, .val (.ref b1), .val (.long cap), .second, .val (.long pt), .second, .val (.long mm), .second, .val (.int (p5 &&& (3 : Int32))), .unset, .unset, .unset, .unset, .unset, .unset, .unset, .unset, .unset] [])) _
      refine XS.iload X4.here hx rfl (hb hby at_89) rfl  ?_
      show Steps p.tables e below (T4.setTop (mkF m 91 #[.val (.int p0), .val (.int p1), .val (.long q2), .second, .val (.long q3), .second, .val (.long q4), .second, .val (.int p5), .val (.long lim), .second, .val (.long per), .second, .val (.long bur), .second, .val (.ref b1), .val (.long cap), .second, .val (.long pt), .second, .val (.long mm), .second, .val (.int (p5 &&& (3 : Int32))), .unset, .unset, .unset, .unset, .unset, .unset, .unset, .unset, .unset] [(.int (p5 &&& (3 : Int32)))])) _
      refine XS.iconst X4.here hx rfl (hb hby at_91) ?_
      show Steps p.tables e below (T4.setTop (mkF m 92 #[.val (.int p0), .val (.int p1), .val (.long q2), .second, .val (.long q3), .second, .val (.long q4), .second, .val (.int p5), .val (.long lim), .second, .val (.long per), .second, .val (.long bur), .second, .val (.ref b1), .val (.long cap), .second, .val (.long pt), .second, .val (.long mm), .second, .val (.int (p5 &&& (3 : Int32))), .unset, .unset, .unset, .unset, .unset, .unset, .unset, .unset, .unset] [(.int (1 : Int32)), (.int (p5 &&& (3 : Int32)))])) _
      have sm6 : ∀ t, Steps p.tables e below (T4.setTop (mkF m 115 #[.val (.int p0), .val (.int p1), .val (.long q2), .second, .val (.long q3), .second, .val (.long q4), .second, .val (.int p5), .val (.long lim), .second, .val (.long per), .second, .val (.long bur), .second, .val (.ref b1), .val (.long cap), .second, .val (.long pt), .second, .val (.long mm), .second, .val (.int (p5 &&& (3 : Int32))), .val (.long (if (p5 &&& (3 : Int32)) = (1 : Int32) then (mm % cap) else (cap - (mm % cap)))), .second, .unset, .unset, .unset, .unset, .unset, .unset, .unset] [])) t → Steps p.tables e below (T4.setTop (mkF m 92 #[.val (.int p0), .val (.int p1), .val (.long q2), .second, .val (.long q3), .second, .val (.long q4), .second, .val (.int p5), .val (.long lim), .second, .val (.long per), .second, .val (.long bur), .second, .val (.ref b1), .val (.long cap), .second, .val (.long pt), .second, .val (.long mm), .second, .val (.int (p5 &&& (3 : Int32))), .unset, .unset, .unset, .unset, .unset, .unset, .unset, .unset, .unset] [(.int (1 : Int32)), (.int (p5 &&& (3 : Int32)))])) t := by
        intro t k
        by_cases hc92_6 : (p5 &&& (3 : Int32)) = (1 : Int32)
        · have k2 : Steps p.tables e below (T4.setTop (mkF m 115 #[.val (.int p0), .val (.int p1), .val (.long q2), .second, .val (.long q3), .second, .val (.long q4), .second, .val (.int p5), .val (.long lim), .second, .val (.long per), .second, .val (.long bur), .second, .val (.ref b1), .val (.long cap), .second, .val (.long pt), .second, .val (.long mm), .second, .val (.int (p5 &&& (3 : Int32))), .val (.long (mm % cap)), .second, .unset, .unset, .unset, .unset, .unset, .unset, .unset] [])) t := by simpa only [if_pos hc92_6] using k
          show Steps p.tables e below (T4.setTop (mkF m 92 #[.val (.int p0), .val (.int p1), .val (.long q2), .second, .val (.long q3), .second, .val (.long q4), .second, .val (.int p5), .val (.long lim), .second, .val (.long per), .second, .val (.long bur), .second, .val (.ref b1), .val (.long cap), .second, .val (.long pt), .second, .val (.long mm), .second, .val (.int (p5 &&& (3 : Int32))), .unset, .unset, .unset, .unset, .unset, .unset, .unset, .unset, .unset] [(.int (1 : Int32)), (.int (p5 &&& (3 : Int32)))])) _
          refine XS.icmpNo X4.here hx rfl (hb hby at_92) rfl (teq hc92_6).2 ?_
          show Steps p.tables e below (T4.setTop (mkF m 95 #[.val (.int p0), .val (.int p1), .val (.long q2), .second, .val (.long q3), .second, .val (.long q4), .second, .val (.int p5), .val (.long lim), .second, .val (.long per), .second, .val (.long bur), .second, .val (.ref b1), .val (.long cap), .second, .val (.long pt), .second, .val (.long mm), .second, .val (.int (p5 &&& (3 : Int32))), .unset, .unset, .unset, .unset, .unset, .unset, .unset, .unset, .unset] [])) _
          refine XS.lload X4.here hx rfl (hb hby at_95) rfl  ?_
          show Steps p.tables e below (T4.setTop (mkF m 97 #[.val (.int p0), .val (.int p1), .val (.long q2), .second, .val (.long q3), .second, .val (.long q4), .second, .val (.int p5), .val (.long lim), .second, .val (.long per), .second, .val (.long bur), .second, .val (.ref b1), .val (.long cap), .second, .val (.long pt), .second, .val (.long mm), .second, .val (.int (p5 &&& (3 : Int32))), .unset, .unset, .unset, .unset, .unset, .unset, .unset, .unset, .unset] [(.long mm)])) _
          refine XS.lload X4.here hx rfl (hb hby at_97) rfl  ?_
          show Steps p.tables e below (T4.setTop (mkF m 99 #[.val (.int p0), .val (.int p1), .val (.long q2), .second, .val (.long q3), .second, .val (.long q4), .second, .val (.int p5), .val (.long lim), .second, .val (.long per), .second, .val (.long bur), .second, .val (.ref b1), .val (.long cap), .second, .val (.long pt), .second, .val (.long mm), .second, .val (.int (p5 &&& (3 : Int32))), .unset, .unset, .unset, .unset, .unset, .unset, .unset, .unset, .unset] [(.long cap), (.long mm)])) _
          refine own_lrem X4.here hx rfl (hb hby at_99) rfl hcp0 ?_
          show Steps p.tables e below (T4.setTop (mkF m 100 #[.val (.int p0), .val (.int p1), .val (.long q2), .second, .val (.long q3), .second, .val (.long q4), .second, .val (.int p5), .val (.long lim), .second, .val (.long per), .second, .val (.long bur), .second, .val (.ref b1), .val (.long cap), .second, .val (.long pt), .second, .val (.long mm), .second, .val (.int (p5 &&& (3 : Int32))), .unset, .unset, .unset, .unset, .unset, .unset, .unset, .unset, .unset] [(.long (mm % cap))])) _
          refine XS.lstore X4.here hx rfl (hb hby at_100) rfl (l' := #[.val (.int p0), .val (.int p1), .val (.long q2), .second, .val (.long q3), .second, .val (.long q4), .second, .val (.int p5), .val (.long lim), .second, .val (.long per), .second, .val (.long bur), .second, .val (.ref b1), .val (.long cap), .second, .val (.long pt), .second, .val (.long mm), .second, .val (.int (p5 &&& (3 : Int32))), .val (.long (mm % cap)), .second, .unset, .unset, .unset, .unset, .unset, .unset, .unset]) rfl ?_
          show Steps p.tables e below (T4.setTop (mkF m 102 #[.val (.int p0), .val (.int p1), .val (.long q2), .second, .val (.long q3), .second, .val (.long q4), .second, .val (.int p5), .val (.long lim), .second, .val (.long per), .second, .val (.long bur), .second, .val (.ref b1), .val (.long cap), .second, .val (.long pt), .second, .val (.long mm), .second, .val (.int (p5 &&& (3 : Int32))), .val (.long (mm % cap)), .second, .unset, .unset, .unset, .unset, .unset, .unset, .unset] [])) _
          refine XS.goto X4.here hx rfl (pc0 := 102) (pc' := 115) rfl (hb hby at_102) (by decide) (by decide) ?_
          exact k2
        · have k2 : Steps p.tables e below (T4.setTop (mkF m 115 #[.val (.int p0), .val (.int p1), .val (.long q2), .second, .val (.long q3), .second, .val (.long q4), .second, .val (.int p5), .val (.long lim), .second, .val (.long per), .second, .val (.long bur), .second, .val (.ref b1), .val (.long cap), .second, .val (.long pt), .second, .val (.long mm), .second, .val (.int (p5 &&& (3 : Int32))), .val (.long (cap - (mm % cap))), .second, .unset, .unset, .unset, .unset, .unset, .unset, .unset] [])) t := by simpa only [if_neg hc92_6] using k
          show Steps p.tables e below (T4.setTop (mkF m 92 #[.val (.int p0), .val (.int p1), .val (.long q2), .second, .val (.long q3), .second, .val (.long q4), .second, .val (.int p5), .val (.long lim), .second, .val (.long per), .second, .val (.long bur), .second, .val (.ref b1), .val (.long cap), .second, .val (.long pt), .second, .val (.long mm), .second, .val (.int (p5 &&& (3 : Int32))), .unset, .unset, .unset, .unset, .unset, .unset, .unset, .unset, .unset] [(.int (1 : Int32)), (.int (p5 &&& (3 : Int32)))])) _
          refine XS.icmpYes X4.here hx rfl (pc0 := 92) (pc' := 105) rfl (hb hby at_92) rfl (feq hc92_6).2 (by decide) (by decide) ?_
          show Steps p.tables e below (T4.setTop (mkF m 105 #[.val (.int p0), .val (.int p1), .val (.long q2), .second, .val (.long q3), .second, .val (.long q4), .second, .val (.int p5), .val (.long lim), .second, .val (.long per), .second, .val (.long bur), .second, .val (.ref b1), .val (.long cap), .second, .val (.long pt), .second, .val (.long mm), .second, .val (.int (p5 &&& (3 : Int32))), .unset, .unset, .unset, .unset, .unset, .unset, .unset, .unset, .unset] [])) _
          refine XS.lload X4.here hx rfl (hb hby at_105) rfl  ?_
          show Steps p.tables e below (T4.setTop (mkF m 107 #[.val (.int p0), .val (.int p1), .val (.long q2), .second, .val (.long q3), .second, .val (.long q4), .second, .val (.int p5), .val (.long lim), .second, .val (.long per), .second, .val (.long bur), .second, .val (.ref b1), .val (.long cap), .second, .val (.long pt), .second, .val (.long mm), .second, .val (.int (p5 &&& (3 : Int32))), .unset, .unset, .unset, .unset, .unset, .unset, .unset, .unset, .unset] [(.long cap)])) _
          refine XS.lload X4.here hx rfl (hb hby at_107) rfl  ?_
          show Steps p.tables e below (T4.setTop (mkF m 109 #[.val (.int p0), .val (.int p1), .val (.long q2), .second, .val (.long q3), .second, .val (.long q4), .second, .val (.int p5), .val (.long lim), .second, .val (.long per), .second, .val (.long bur), .second, .val (.ref b1), .val (.long cap), .second, .val (.long pt), .second, .val (.long mm), .second, .val (.int (p5 &&& (3 : Int32))), .unset, .unset, .unset, .unset, .unset, .unset, .unset, .unset, .unset] [(.long mm), (.long cap)])) _
          refine XS.lload X4.here hx rfl (hb hby at_109) rfl  ?_
          show Steps p.tables e below (T4.setTop (mkF m 111 #[.val (.int p0), .val (.int p1), .val (.long q2), .second, .val (.long q3), .second, .val (.long q4), .second, .val (.int p5), .val (.long lim), .second, .val (.long per), .second, .val (.long bur), .second, .val (.ref b1), .val (.long cap), .second, .val (.long pt), .second, .val (.long mm), .second, .val (.int (p5 &&& (3 : Int32))), .unset, .unset, .unset, .unset, .unset, .unset, .unset, .unset, .unset] [(.long cap), (.long mm), (.long cap)])) _
          refine own_lrem X4.here hx rfl (hb hby at_111) rfl hcp0 ?_
          show Steps p.tables e below (T4.setTop (mkF m 112 #[.val (.int p0), .val (.int p1), .val (.long q2), .second, .val (.long q3), .second, .val (.long q4), .second, .val (.int p5), .val (.long lim), .second, .val (.long per), .second, .val (.long bur), .second, .val (.ref b1), .val (.long cap), .second, .val (.long pt), .second, .val (.long mm), .second, .val (.int (p5 &&& (3 : Int32))), .unset, .unset, .unset, .unset, .unset, .unset, .unset, .unset, .unset] [(.long (mm % cap)), (.long cap)])) _
          refine XS.lsub X4.here hx rfl (hb hby at_112) rfl ?_
          show Steps p.tables e below (T4.setTop (mkF m 113 #[.val (.int p0), .val (.int p1), .val (.long q2), .second, .val (.long q3), .second, .val (.long q4), .second, .val (.int p5), .val (.long lim), .second, .val (.long per), .second, .val (.long bur), .second, .val (.ref b1), .val (.long cap), .second, .val (.long pt), .second, .val (.long mm), .second, .val (.int (p5 &&& (3 : Int32))), .unset, .unset, .unset, .unset, .unset, .unset, .unset, .unset, .unset] [(.long (cap - (mm % cap)))])) _
          refine XS.lstore X4.here hx rfl (hb hby at_113) rfl (l' := #[.val (.int p0), .val (.int p1), .val (.long q2), .second, .val (.long q3), .second, .val (.long q4), .second, .val (.int p5), .val (.long lim), .second, .val (.long per), .second, .val (.long bur), .second, .val (.ref b1), .val (.long cap), .second, .val (.long pt), .second, .val (.long mm), .second, .val (.int (p5 &&& (3 : Int32))), .val (.long (cap - (mm % cap))), .second, .unset, .unset, .unset, .unset, .unset, .unset, .unset]) rfl ?_
          exact k2
      refine sm6 _ ?_
      exact k2
  refine Goes.go sm5 ?_
  have hmis : 0 ≤ z5_l23.toInt := by rw [hz5_l23]; exact own_mis _ hmm hcp
  show Goes p e below s _ _ _ (T4.setTop (mkF m 115 #[.val (.int p0), .val (.int p1), .val (.long q2), .second, .val (.long q3), .second, .val (.long q4), .second, .val (.int p5), .val (.long lim), .second, .val (.long per), .second, .val (.long bur), .second, .val (.ref b1), .val (.long cap), .second, .val (.long pt), .second, .val (.long mm), .second, .val (.int (p5 &&& (3 : Int32))), .val (.long z5_l23), .second, .unset, .unset, .unset, .unset, .unset, .unset, .unset] []))
  refine Goes.go (fun _ k => XS.lload X4.here hx rfl (hb hby at_115) rfl  k) ?_
  show Goes p e below s _ _ _ (T4.setTop (mkF m 117 #[.val (.int p0), .val (.int p1), .val (.long q2), .second, .val (.long q3), .second, .val (.long q4), .second, .val (.int p5), .val (.long lim), .second, .val (.long per), .second, .val (.long bur), .second, .val (.ref b1), .val (.long cap), .second, .val (.long pt), .second, .val (.long mm), .second, .val (.int (p5 &&& (3 : Int32))), .val (.long z5_l23), .second, .unset, .unset, .unset, .unset, .unset, .unset, .unset] [(.long q4)]))
  refine Goes.go (fun _ k => X4.ldc2Long hx hown (mvT hZ (hw _ (List.mem_of_getElem? (i := 1) rfl))) (g := (mkF m 117 #[.val (.int p0), .val (.int p1), .val (.long q2), .second, .val (.long q3), .second, .val (.long q4), .second, .val (.int p5), .val (.long lim), .second, .val (.long per), .second, .val (.long bur), .second, .val (.ref b1), .val (.long cap), .second, .val (.long pt), .second, .val (.long mm), .second, .val (.int (p5 &&& (3 : Int32))), .val (.long z5_l23), .second, .unset, .unset, .unset, .unset, .unset, .unset, .unset] [(.long q4)])) rfl (hb hby at_117) _ k) ?_
  show Goes p e below s _ _ _ (T4.setTop (mkF m 120 #[.val (.int p0), .val (.int p1), .val (.long q2), .second, .val (.long q3), .second, .val (.long q4), .second, .val (.int p5), .val (.long lim), .second, .val (.long per), .second, .val (.long bur), .second, .val (.ref b1), .val (.long cap), .second, .val (.long pt), .second, .val (.long mm), .second, .val (.int (p5 &&& (3 : Int32))), .val (.long z5_l23), .second, .unset, .unset, .unset, .unset, .unset, .unset, .unset] [(.long (9223372036854775807 : Int64)), (.long q4)]))
  refine Goes.go (fun _ k => XS.land X4.here hx rfl (hb hby at_120) rfl k) ?_
  show Goes p e below s _ _ _ (T4.setTop (mkF m 121 #[.val (.int p0), .val (.int p1), .val (.long q2), .second, .val (.long q3), .second, .val (.long q4), .second, .val (.int p5), .val (.long lim), .second, .val (.long per), .second, .val (.long bur), .second, .val (.ref b1), .val (.long cap), .second, .val (.long pt), .second, .val (.long mm), .second, .val (.int (p5 &&& (3 : Int32))), .val (.long z5_l23), .second, .unset, .unset, .unset, .unset, .unset, .unset, .unset] [(.long (q4 &&& (9223372036854775807 : Int64)))]))
  refine Goes.go (fun _ k => XS.lstore X4.here hx rfl (hb hby at_121) rfl (l' := #[.val (.int p0), .val (.int p1), .val (.long q2), .second, .val (.long q3), .second, .val (.long q4), .second, .val (.int p5), .val (.long lim), .second, .val (.long per), .second, .val (.long bur), .second, .val (.ref b1), .val (.long cap), .second, .val (.long pt), .second, .val (.long mm), .second, .val (.int (p5 &&& (3 : Int32))), .val (.long z5_l23), .second, .val (.long (q4 &&& (9223372036854775807 : Int64))), .second, .unset, .unset, .unset, .unset, .unset]) rfl k) ?_
  show Goes p e below s _ _ _ (T4.setTop (mkF m 123 #[.val (.int p0), .val (.int p1), .val (.long q2), .second, .val (.long q3), .second, .val (.long q4), .second, .val (.int p5), .val (.long lim), .second, .val (.long per), .second, .val (.long bur), .second, .val (.ref b1), .val (.long cap), .second, .val (.long pt), .second, .val (.long mm), .second, .val (.int (p5 &&& (3 : Int32))), .val (.long z5_l23), .second, .val (.long (q4 &&& (9223372036854775807 : Int64))), .second, .unset, .unset, .unset, .unset, .unset] []))
  generalize d_pp : (q4 &&& (9223372036854775807 : Int64)) = pp
  have hpp : 0 ≤ pp.toInt := by rw [← d_pp]; exact own_nn _
  show Goes p e below s _ _ _ (T4.setTop (mkF m 123 #[.val (.int p0), .val (.int p1), .val (.long q2), .second, .val (.long q3), .second, .val (.long q4), .second, .val (.int p5), .val (.long lim), .second, .val (.long per), .second, .val (.long bur), .second, .val (.ref b1), .val (.long cap), .second, .val (.long pt), .second, .val (.long mm), .second, .val (.int (p5 &&& (3 : Int32))), .val (.long z5_l23), .second, .val (.long pp), .second, .unset, .unset, .unset, .unset, .unset] []))
  refine Goes.go (fun _ k => XS.iload X4.here hx rfl (hb hby at_123) rfl  k) ?_
  show Goes p e below s _ _ _ (T4.setTop (mkF m 125 #[.val (.int p0), .val (.int p1), .val (.long q2), .second, .val (.long q3), .second, .val (.long q4), .second, .val (.int p5), .val (.long lim), .second, .val (.long per), .second, .val (.long bur), .second, .val (.ref b1), .val (.long cap), .second, .val (.long pt), .second, .val (.long mm), .second, .val (.int (p5 &&& (3 : Int32))), .val (.long z5_l23), .second, .val (.long pp), .second, .unset, .unset, .unset, .unset, .unset] [(.int p5)]))
  refine Goes.go (fun _ k => XS.iconst X4.here hx rfl (hb hby at_125) k) ?_
  show Goes p e below s _ _ _ (T4.setTop (mkF m 126 #[.val (.int p0), .val (.int p1), .val (.long q2), .second, .val (.long q3), .second, .val (.long q4), .second, .val (.int p5), .val (.long lim), .second, .val (.long per), .second, .val (.long bur), .second, .val (.ref b1), .val (.long cap), .second, .val (.long pt), .second, .val (.long mm), .second, .val (.int (p5 &&& (3 : Int32))), .val (.long z5_l23), .second, .val (.long pp), .second, .unset, .unset, .unset, .unset, .unset] [(.int (4 : Int32)), (.int p5)]))
  refine Goes.go (fun _ k => XS.iand X4.here hx rfl (hb hby at_126) rfl k) ?_
  show Goes p e below s _ _ _ (T4.setTop (mkF m 127 #[.val (.int p0), .val (.int p1), .val (.long q2), .second, .val (.long q3), .second, .val (.long q4), .second, .val (.int p5), .val (.long lim), .second, .val (.long per), .second, .val (.long bur), .second, .val (.ref b1), .val (.long cap), .second, .val (.long pt), .second, .val (.long mm), .second, .val (.int (p5 &&& (3 : Int32))), .val (.long z5_l23), .second, .val (.long pp), .second, .unset, .unset, .unset, .unset, .unset] [(.int (p5 &&& (4 : Int32)))]))
  by_cases hc127_7 : (p5 &&& (4 : Int32)) = (0 : Int32)
  · skip
    refine Goes.go (fun _ k => XS.ifYes X4.here hx rfl (pc0 := 127) (pc' := 141) rfl (hb hby at_127) rfl ((if0 _ _).trans (teq hc127_7).1) (by decide) (by decide) k) ?_
    show Goes p e below s _ _ _ (T4.setTop (mkF m 141 #[.val (.int p0), .val (.int p1), .val (.long q2), .second, .val (.long q3), .second, .val (.long q4), .second, .val (.int p5), .val (.long lim), .second, .val (.long per), .second, .val (.long bur), .second, .val (.ref b1), .val (.long cap), .second, .val (.long pt), .second, .val (.long mm), .second, .val (.int (p5 &&& (3 : Int32))), .val (.long z5_l23), .second, .val (.long pp), .second, .unset, .unset, .unset, .unset, .unset] []))
    refine Goes.go (fun _ k => XS.lload X4.here hx rfl (hb hby at_141) rfl  k) ?_
    show Goes p e below s _ _ _ (T4.setTop (mkF m 143 #[.val (.int p0), .val (.int p1), .val (.long q2), .second, .val (.long q3), .second, .val (.long q4), .second, .val (.int p5), .val (.long lim), .second, .val (.long per), .second, .val (.long bur), .second, .val (.ref b1), .val (.long cap), .second, .val (.long pt), .second, .val (.long mm), .second, .val (.int (p5 &&& (3 : Int32))), .val (.long z5_l23), .second, .val (.long pp), .second, .unset, .unset, .unset, .unset, .unset] [(.long pp)]))
    refine Goes.go (fun _ k => XS.lload X4.here hx rfl (hb hby at_143) rfl  k) ?_
    show Goes p e below s _ _ _ (T4.setTop (mkF m 145 #[.val (.int p0), .val (.int p1), .val (.long q2), .second, .val (.long q3), .second, .val (.long q4), .second, .val (.int p5), .val (.long lim), .second, .val (.long per), .second, .val (.long bur), .second, .val (.ref b1), .val (.long cap), .second, .val (.long pt), .second, .val (.long mm), .second, .val (.int (p5 &&& (3 : Int32))), .val (.long z5_l23), .second, .val (.long pp), .second, .unset, .unset, .unset, .unset, .unset] [(.long bur), (.long pp)]))
    refine Goes.go (fun _ k => own_lrem X4.here hx rfl (hb hby at_145) rfl (own_nz hbur) k) ?_
    show Goes p e below s _ _ _ (T4.setTop (mkF m 146 #[.val (.int p0), .val (.int p1), .val (.long q2), .second, .val (.long q3), .second, .val (.long q4), .second, .val (.int p5), .val (.long lim), .second, .val (.long per), .second, .val (.long bur), .second, .val (.ref b1), .val (.long cap), .second, .val (.long pt), .second, .val (.long mm), .second, .val (.int (p5 &&& (3 : Int32))), .val (.long z5_l23), .second, .val (.long pp), .second, .unset, .unset, .unset, .unset, .unset] [(.long (pp % bur))]))
    refine Goes.go (fun _ k => XS.lconst X4.here hx rfl (hb hby at_146) k) ?_
    show Goes p e below s _ _ _ (T4.setTop (mkF m 147 #[.val (.int p0), .val (.int p1), .val (.long q2), .second, .val (.long q3), .second, .val (.long q4), .second, .val (.int p5), .val (.long lim), .second, .val (.long per), .second, .val (.long bur), .second, .val (.ref b1), .val (.long cap), .second, .val (.long pt), .second, .val (.long mm), .second, .val (.int (p5 &&& (3 : Int32))), .val (.long z5_l23), .second, .val (.long pp), .second, .unset, .unset, .unset, .unset, .unset] [(.long (1 : Int64)), (.long (pp % bur))]))
    refine Goes.go (fun _ k => XS.ladd X4.here hx rfl (hb hby at_147) rfl k) ?_
    show Goes p e below s _ _ _ (T4.setTop (mkF m 148 #[.val (.int p0), .val (.int p1), .val (.long q2), .second, .val (.long q3), .second, .val (.long q4), .second, .val (.int p5), .val (.long lim), .second, .val (.long per), .second, .val (.long bur), .second, .val (.ref b1), .val (.long cap), .second, .val (.long pt), .second, .val (.long mm), .second, .val (.int (p5 &&& (3 : Int32))), .val (.long z5_l23), .second, .val (.long pp), .second, .unset, .unset, .unset, .unset, .unset] [(.long ((pp % bur) + (1 : Int64)))]))
    refine Goes.go (fun _ k => XS.lstore X4.here hx rfl (hb hby at_148) rfl (l' := #[.val (.int p0), .val (.int p1), .val (.long q2), .second, .val (.long q3), .second, .val (.long q4), .second, .val (.int p5), .val (.long lim), .second, .val (.long per), .second, .val (.long bur), .second, .val (.ref b1), .val (.long cap), .second, .val (.long pt), .second, .val (.long mm), .second, .val (.int (p5 &&& (3 : Int32))), .val (.long z5_l23), .second, .val (.long pp), .second, .val (.long ((pp % bur) + (1 : Int64))), .second, .unset, .unset, .unset]) rfl k) ?_
    show Goes p e below s _ _ _ (T4.setTop (mkF m 150 #[.val (.int p0), .val (.int p1), .val (.long q2), .second, .val (.long q3), .second, .val (.long q4), .second, .val (.int p5), .val (.long lim), .second, .val (.long per), .second, .val (.long bur), .second, .val (.ref b1), .val (.long cap), .second, .val (.long pt), .second, .val (.long mm), .second, .val (.int (p5 &&& (3 : Int32))), .val (.long z5_l23), .second, .val (.long pp), .second, .val (.long ((pp % bur) + (1 : Int64))), .second, .unset, .unset, .unset] []))
    refine Goes.go (fun _ k => XS.lload X4.here hx rfl (hb hby at_150) rfl  k) ?_
    show Goes p e below s _ _ _ (T4.setTop (mkF m 152 #[.val (.int p0), .val (.int p1), .val (.long q2), .second, .val (.long q3), .second, .val (.long q4), .second, .val (.int p5), .val (.long lim), .second, .val (.long per), .second, .val (.long bur), .second, .val (.ref b1), .val (.long cap), .second, .val (.long pt), .second, .val (.long mm), .second, .val (.int (p5 &&& (3 : Int32))), .val (.long z5_l23), .second, .val (.long pp), .second, .val (.long ((pp % bur) + (1 : Int64))), .second, .unset, .unset, .unset] [(.long z5_l23)]))
    refine Goes.go (fun _ k => XS.lload X4.here hx rfl (hb hby at_152) rfl  k) ?_
    show Goes p e below s _ _ _ (T4.setTop (mkF m 154 #[.val (.int p0), .val (.int p1), .val (.long q2), .second, .val (.long q3), .second, .val (.long q4), .second, .val (.int p5), .val (.long lim), .second, .val (.long per), .second, .val (.long bur), .second, .val (.ref b1), .val (.long cap), .second, .val (.long pt), .second, .val (.long mm), .second, .val (.int (p5 &&& (3 : Int32))), .val (.long z5_l23), .second, .val (.long pp), .second, .val (.long ((pp % bur) + (1 : Int64))), .second, .unset, .unset, .unset] [(.long cap), (.long z5_l23)]))
    refine Goes.go (fun _ k => XS.lcmp X4.here hx rfl (hb hby at_154) rfl k) ?_
    show Goes p e below s _ _ _ (T4.setTop (mkF m 155 #[.val (.int p0), .val (.int p1), .val (.long q2), .second, .val (.long q3), .second, .val (.long q4), .second, .val (.int p5), .val (.long lim), .second, .val (.long per), .second, .val (.long bur), .second, .val (.ref b1), .val (.long cap), .second, .val (.long pt), .second, .val (.long mm), .second, .val (.int (p5 &&& (3 : Int32))), .val (.long z5_l23), .second, .val (.long pp), .second, .val (.long ((pp % bur) + (1 : Int64))), .second, .unset, .unset, .unset] [(.int (lcmpW z5_l23 cap))]))
    obtain ⟨z8_s0, hz8_s0⟩ : ∃ z : Int32, z = if cap < z5_l23 then (0 : Int32) else (if ((cap - z5_l23) / pt) < ((pp % bur) + (1 : Int64)) then (0 : Int32) else (1 : Int32)) := ⟨_, rfl⟩
    have sm8 : ∀ t, Steps p.tables e below (T4.setTop (mkF m 177 #[.val (.int p0), .val (.int p1), .val (.long q2), .second, .val (.long q3), .second, .val (.long q4), .second, .val (.int p5), .val (.long lim), .second, .val (.long per), .second, .val (.long bur), .second, .val (.ref b1), .val (.long cap), .second, .val (.long pt), .second, .val (.long mm), .second, .val (.int (p5 &&& (3 : Int32))), .val (.long z5_l23), .second, .val (.long pp), .second, .val (.long ((pp % bur) + (1 : Int64))), .second, .unset, .unset, .unset] [(.int z8_s0)])) t → Steps p.tables e below (T4.setTop (mkF m 155 #[.val (.int p0), .val (.int p1), .val (.long q2), .second, .val (.long q3), .second, .val (.long q4), .second, .val (.int p5), .val (.long lim), .second, .val (.long per), .second, .val (.long bur), .second, .val (.ref b1), .val (.long cap), .second, .val (.long pt), .second, .val (.long mm), .second, .val (.int (p5 &&& (3 : Int32))), .val (.long z5_l23), .second, .val (.long pp), .second, .val (.long ((pp % bur) + (1 : Int64))), .second, .unset, .unset, .unset] [(.int (lcmpW z5_l23 cap))])) t := by
      intro t k
      by_cases hc155_8 : cap < z5_l23
      · have k2 : Steps p.tables e below (T4.setTop (mkF m 177 #[.val (.int p0), .val (.int p1), .val (.long q2), .second, .val (.long q3), .second, .val (.long q4), .second, .val (.int p5), .val (.long lim), .second, .val (.long per), .second, .val (.long bur), .second, .val (.ref b1), .val (.long cap), .second, .val (.long pt), .second, .val (.long mm), .second, .val (.int (p5 &&& (3 : Int32))), .val (.long z5_l23), .second, .val (.long pp), .second, .val (.long ((pp % bur) + (1 : Int64))), .second, .unset, .unset, .unset] [(.int (0 : Int32))])) t := by simpa only [hz8_s0, if_pos hc155_8] using k
        show Steps p.tables e below (T4.setTop (mkF m 155 #[.val (.int p0), .val (.int p1), .val (.long q2), .second, .val (.long q3), .second, .val (.long q4), .second, .val (.int p5), .val (.long lim), .second, .val (.long per), .second, .val (.long bur), .second, .val (.ref b1), .val (.long cap), .second, .val (.long pt), .second, .val (.long mm), .second, .val (.int (p5 &&& (3 : Int32))), .val (.long z5_l23), .second, .val (.long pp), .second, .val (.long ((pp % bur) + (1 : Int64))), .second, .unset, .unset, .unset] [(.int (lcmpW z5_l23 cap))])) _
        refine XS.ifYes X4.here hx rfl (pc0 := 155) (pc' := 176) rfl (hb hby at_155) rfl ((if0 _ _).trans (tlt ((lw_gt z5_l23 cap).mpr hc155_8)).2.2.1) (by decide) (by decide) ?_
        show Steps p.tables e below (T4.setTop (mkF m 176 #[.val (.int p0), .val (.int p1), .val (.long q2), .second, .val (.long q3), .second, .val (.long q4), .second, .val (.int p5), .val (.long lim), .second, .val (.long per), .second, .val (.long bur), .second, .val (.ref b1), .val (.long cap), .second, .val (.long pt), .second, .val (.long mm), .second, .val (.int (p5 &&& (3 : Int32))), .val (.long z5_l23), .second, .val (.long pp), .second, .val (.long ((pp % bur) + (1 : Int64))), .second, .unset, .unset, .unset] [])) _
        refine XS.iconst X4.here hx rfl (hb hby at_176) ?_
        exact k2
      · have k2 : Steps p.tables e below (T4.setTop (mkF m 177 #[.val (.int p0), .val (.int p1), .val (.long q2), .second, .val (.long q3), .second, .val (.long q4), .second, .val (.int p5), .val (.long lim), .second, .val (.long per), .second, .val (.long bur), .second, .val (.ref b1), .val (.long cap), .second, .val (.long pt), .second, .val (.long mm), .second, .val (.int (p5 &&& (3 : Int32))), .val (.long z5_l23), .second, .val (.long pp), .second, .val (.long ((pp % bur) + (1 : Int64))), .second, .unset, .unset, .unset] [(.int (if ((cap - z5_l23) / pt) < ((pp % bur) + (1 : Int64)) then (0 : Int32) else (1 : Int32)))])) t := by simpa only [hz8_s0, if_neg hc155_8] using k
        show Steps p.tables e below (T4.setTop (mkF m 155 #[.val (.int p0), .val (.int p1), .val (.long q2), .second, .val (.long q3), .second, .val (.long q4), .second, .val (.int p5), .val (.long lim), .second, .val (.long per), .second, .val (.long bur), .second, .val (.ref b1), .val (.long cap), .second, .val (.long pt), .second, .val (.long mm), .second, .val (.int (p5 &&& (3 : Int32))), .val (.long z5_l23), .second, .val (.long pp), .second, .val (.long ((pp % bur) + (1 : Int64))), .second, .unset, .unset, .unset] [(.int (lcmpW z5_l23 cap))])) _
        refine XS.ifNo X4.here hx rfl (hb hby at_155) rfl ((if0 _ _).trans (flt (mt (lw_gt z5_l23 cap).mp hc155_8)).2.2.1) ?_
        show Steps p.tables e below (T4.setTop (mkF m 158 #[.val (.int p0), .val (.int p1), .val (.long q2), .second, .val (.long q3), .second, .val (.long q4), .second, .val (.int p5), .val (.long lim), .second, .val (.long per), .second, .val (.long bur), .second, .val (.ref b1), .val (.long cap), .second, .val (.long pt), .second, .val (.long mm), .second, .val (.int (p5 &&& (3 : Int32))), .val (.long z5_l23), .second, .val (.long pp), .second, .val (.long ((pp % bur) + (1 : Int64))), .second, .unset, .unset, .unset] [])) _
        refine XS.lload X4.here hx rfl (hb hby at_158) rfl  ?_
        show Steps p.tables e below (T4.setTop (mkF m 160 #[.val (.int p0), .val (.int p1), .val (.long q2), .second, .val (.long q3), .second, .val (.long q4), .second, .val (.int p5), .val (.long lim), .second, .val (.long per), .second, .val (.long bur), .second, .val (.ref b1), .val (.long cap), .second, .val (.long pt), .second, .val (.long mm), .second, .val (.int (p5 &&& (3 : Int32))), .val (.long z5_l23), .second, .val (.long pp), .second, .val (.long ((pp % bur) + (1 : Int64))), .second, .unset, .unset, .unset] [(.long ((pp % bur) + (1 : Int64)))])) _
        refine XS.lload X4.here hx rfl (hb hby at_160) rfl  ?_
        show Steps p.tables e below (T4.setTop (mkF m 162 #[.val (.int p0), .val (.int p1), .val (.long q2), .second, .val (.long q3), .second, .val (.long q4), .second, .val (.int p5), .val (.long lim), .second, .val (.long per), .second, .val (.long bur), .second, .val (.ref b1), .val (.long cap), .second, .val (.long pt), .second, .val (.long mm), .second, .val (.int (p5 &&& (3 : Int32))), .val (.long z5_l23), .second, .val (.long pp), .second, .val (.long ((pp % bur) + (1 : Int64))), .second, .unset, .unset, .unset] [(.long cap), (.long ((pp % bur) + (1 : Int64)))])) _
        refine XS.lload X4.here hx rfl (hb hby at_162) rfl  ?_
        show Steps p.tables e below (T4.setTop (mkF m 164 #[.val (.int p0), .val (.int p1), .val (.long q2), .second, .val (.long q3), .second, .val (.long q4), .second, .val (.int p5), .val (.long lim), .second, .val (.long per), .second, .val (.long bur), .second, .val (.ref b1), .val (.long cap), .second, .val (.long pt), .second, .val (.long mm), .second, .val (.int (p5 &&& (3 : Int32))), .val (.long z5_l23), .second, .val (.long pp), .second, .val (.long ((pp % bur) + (1 : Int64))), .second, .unset, .unset, .unset] [(.long z5_l23), (.long cap), (.long ((pp % bur) + (1 : Int64)))])) _
        refine XS.lsub X4.here hx rfl (hb hby at_164) rfl ?_
        show Steps p.tables e below (T4.setTop (mkF m 165 #[.val (.int p0), .val (.int p1), .val (.long q2), .second, .val (.long q3), .second, .val (.long q4), .second, .val (.int p5), .val (.long lim), .second, .val (.long per), .second, .val (.long bur), .second, .val (.ref b1), .val (.long cap), .second, .val (.long pt), .second, .val (.long mm), .second, .val (.int (p5 &&& (3 : Int32))), .val (.long z5_l23), .second, .val (.long pp), .second, .val (.long ((pp % bur) + (1 : Int64))), .second, .unset, .unset, .unset] [(.long (cap - z5_l23)), (.long ((pp % bur) + (1 : Int64)))])) _
        refine XS.lload X4.here hx rfl (hb hby at_165) rfl  ?_
        show Steps p.tables e below (T4.setTop (mkF m 167 #[.val (.int p0), .val (.int p1), .val (.long q2), .second, .val (.long q3), .second, .val (.long q4), .second, .val (.int p5), .val (.long lim), .second, .val (.long per), .second, .val (.long bur), .second, .val (.ref b1), .val (.long cap), .second, .val (.long pt), .second, .val (.long mm), .second, .val (.int (p5 &&& (3 : Int32))), .val (.long z5_l23), .second, .val (.long pp), .second, .val (.long ((pp % bur) + (1 : Int64))), .second, .unset, .unset, .unset] [(.long pt), (.long (cap - z5_l23)), (.long ((pp % bur) + (1 : Int64)))])) _
        refine XS.ldiv X4.here hx rfl (hb hby at_167) rfl hpt0 ?_
        show Steps p.tables e below (T4.setTop (mkF m 168 #[.val (.int p0), .val (.int p1), .val (.long q2), .second, .val (.long q3), .second, .val (.long q4), .second, .val (.int p5), .val (.long lim), .second, .val (.long per), .second, .val (.long bur), .second, .val (.ref b1), .val (.long cap), .second, .val (.long pt), .second, .val (.long mm), .second, .val (.int (p5 &&& (3 : Int32))), .val (.long z5_l23), .second, .val (.long pp), .second, .val (.long ((pp % bur) + (1 : Int64))), .second, .unset, .unset, .unset] [(.long ((cap - z5_l23) / pt)), (.long ((pp % bur) + (1 : Int64)))])) _
        refine XS.lcmp X4.here hx rfl (hb hby at_168) rfl ?_
        show Steps p.tables e below (T4.setTop (mkF m 169 #[.val (.int p0), .val (.int p1), .val (.long q2), .second, .val (.long q3), .second, .val (.long q4), .second, .val (.int p5), .val (.long lim), .second, .val (.long per), .second, .val (.long bur), .second, .val (.ref b1), .val (.long cap), .second, .val (.long pt), .second, .val (.long mm), .second, .val (.int (p5 &&& (3 : Int32))), .val (.long z5_l23), .second, .val (.long pp), .second, .val (.long ((pp % bur) + (1 : Int64))), .second, .unset, .unset, .unset] [(.int (lcmpW ((pp % bur) + (1 : Int64)) ((cap - z5_l23) / pt)))])) _
        have sm9 : ∀ t, Steps p.tables e below (T4.setTop (mkF m 177 #[.val (.int p0), .val (.int p1), .val (.long q2), .second, .val (.long q3), .second, .val (.long q4), .second, .val (.int p5), .val (.long lim), .second, .val (.long per), .second, .val (.long bur), .second, .val (.ref b1), .val (.long cap), .second, .val (.long pt), .second, .val (.long mm), .second, .val (.int (p5 &&& (3 : Int32))), .val (.long z5_l23), .second, .val (.long pp), .second, .val (.long ((pp % bur) + (1 : Int64))), .second, .unset, .unset, .unset] [(.int (if ((cap - z5_l23) / pt) < ((pp % bur) + (1 : Int64)) then (0 : Int32) else (1 : Int32)))])) t → Steps p.tables e below (T4.setTop (mkF m 169 #[.val (.int p0), .val (.int p1), .val (.long q2), .second, .val (.long q3), .second, .val (.long q4), .second, .val (.int p5), .val (.long lim), .second, .val (.long per), .second, .val (.long bur), .second, .val (.ref b1), .val (.long cap), .second, .val (.long pt), .second, .val (.long mm), .second, .val (.int (p5 &&& (3 : Int32))), .val (.long z5_l23), .second, .val (.long pp), .second, .val (.long ((pp % bur) + (1 : Int64))), .second, .unset, .unset, .unset] [(.int (lcmpW ((pp % bur) + (1 : Int64)) ((cap - z5_l23) / pt)))])) t := by
          intro t k
          by_cases hc169_9 : ((cap - z5_l23) / pt) < ((pp % bur) + (1 : Int64))
          · have k2 : Steps p.tables e below (T4.setTop (mkF m 177 #[.val (.int p0), .val (.int p1), .val (.long q2), .second, .val (.long q3), .second, .val (.long q4), .second, .val (.int p5), .val (.long lim), .second, .val (.long per), .second, .val (.long bur), .second, .val (.ref b1), .val (.long cap), .second, .val (.long pt), .second, .val (.long mm), .second, .val (.int (p5 &&& (3 : Int32))), .val (.long z5_l23), .second, .val (.long pp), .second, .val (.long ((pp % bur) + (1 : Int64))), .second, .unset, .unset, .unset] [(.int (0 : Int32))])) t := by simpa only [if_pos hc169_9] using k
            show Steps p.tables e below (T4.setTop (mkF m 169 #[.val (.int p0), .val (.int p1), .val (.long q2), .second, .val (.long q3), .second, .val (.long q4), .second, .val (.int p5), .val (.long lim), .second, .val (.long per), .second, .val (.long bur), .second, .val (.ref b1), .val (.long cap), .second, .val (.long pt), .second, .val (.long mm), .second, .val (.int (p5 &&& (3 : Int32))), .val (.long z5_l23), .second, .val (.long pp), .second, .val (.long ((pp % bur) + (1 : Int64))), .second, .unset, .unset, .unset] [(.int (lcmpW ((pp % bur) + (1 : Int64)) ((cap - z5_l23) / pt)))])) _
            refine XS.ifYes X4.here hx rfl (pc0 := 169) (pc' := 176) rfl (hb hby at_169) rfl ((if0 _ _).trans (tlt ((lw_gt ((pp % bur) + (1 : Int64)) ((cap - z5_l23) / pt)).mpr hc169_9)).2.2.1) (by decide) (by decide) ?_
            show Steps p.tables e below (T4.setTop (mkF m 176 #[.val (.int p0), .val (.int p1), .val (.long q2), .second, .val (.long q3), .second, .val (.long q4), .second, .val (.int p5), .val (.long lim), .second, .val (.long per), .second, .val (.long bur), .second, .val (.ref b1), .val (.long cap), .second, .val (.long pt), .second, .val (.long mm), .second, .val (.int (p5 &&& (3 : Int32))), .val (.long z5_l23), .second, .val (.long pp), .second, .val (.long ((pp % bur) + (1 : Int64))), .second, .unset, .unset, .unset] [])) _
            refine XS.iconst X4.here hx rfl (hb hby at_176) ?_
            exact k2
          · have k2 : Steps p.tables e below (T4.setTop (mkF m 177 #[.val (.int p0), .val (.int p1), .val (.long q2), .second, .val (.long q3), .second, .val (.long q4), .second, .val (.int p5), .val (.long lim), .second, .val (.long per), .second, .val (.long bur), .second, .val (.ref b1), .val (.long cap), .second, .val (.long pt), .second, .val (.long mm), .second, .val (.int (p5 &&& (3 : Int32))), .val (.long z5_l23), .second, .val (.long pp), .second, .val (.long ((pp % bur) + (1 : Int64))), .second, .unset, .unset, .unset] [(.int (1 : Int32))])) t := by simpa only [if_neg hc169_9] using k
            show Steps p.tables e below (T4.setTop (mkF m 169 #[.val (.int p0), .val (.int p1), .val (.long q2), .second, .val (.long q3), .second, .val (.long q4), .second, .val (.int p5), .val (.long lim), .second, .val (.long per), .second, .val (.long bur), .second, .val (.ref b1), .val (.long cap), .second, .val (.long pt), .second, .val (.long mm), .second, .val (.int (p5 &&& (3 : Int32))), .val (.long z5_l23), .second, .val (.long pp), .second, .val (.long ((pp % bur) + (1 : Int64))), .second, .unset, .unset, .unset] [(.int (lcmpW ((pp % bur) + (1 : Int64)) ((cap - z5_l23) / pt)))])) _
            refine XS.ifNo X4.here hx rfl (hb hby at_169) rfl ((if0 _ _).trans (flt (mt (lw_gt ((pp % bur) + (1 : Int64)) ((cap - z5_l23) / pt)).mp hc169_9)).2.2.1) ?_
            show Steps p.tables e below (T4.setTop (mkF m 172 #[.val (.int p0), .val (.int p1), .val (.long q2), .second, .val (.long q3), .second, .val (.long q4), .second, .val (.int p5), .val (.long lim), .second, .val (.long per), .second, .val (.long bur), .second, .val (.ref b1), .val (.long cap), .second, .val (.long pt), .second, .val (.long mm), .second, .val (.int (p5 &&& (3 : Int32))), .val (.long z5_l23), .second, .val (.long pp), .second, .val (.long ((pp % bur) + (1 : Int64))), .second, .unset, .unset, .unset] [])) _
            refine XS.iconst X4.here hx rfl (hb hby at_172) ?_
            show Steps p.tables e below (T4.setTop (mkF m 173 #[.val (.int p0), .val (.int p1), .val (.long q2), .second, .val (.long q3), .second, .val (.long q4), .second, .val (.int p5), .val (.long lim), .second, .val (.long per), .second, .val (.long bur), .second, .val (.ref b1), .val (.long cap), .second, .val (.long pt), .second, .val (.long mm), .second, .val (.int (p5 &&& (3 : Int32))), .val (.long z5_l23), .second, .val (.long pp), .second, .val (.long ((pp % bur) + (1 : Int64))), .second, .unset, .unset, .unset] [(.int (1 : Int32))])) _
            refine XS.goto X4.here hx rfl (pc0 := 173) (pc' := 177) rfl (hb hby at_173) (by decide) (by decide) ?_
            exact k2
        refine sm9 _ ?_
        exact k2
    refine Goes.go sm8 ?_
    show Goes p e below s _ _ _ (T4.setTop (mkF m 177 #[.val (.int p0), .val (.int p1), .val (.long q2), .second, .val (.long q3), .second, .val (.long q4), .second, .val (.int p5), .val (.long lim), .second, .val (.long per), .second, .val (.long bur), .second, .val (.ref b1), .val (.long cap), .second, .val (.long pt), .second, .val (.long mm), .second, .val (.int (p5 &&& (3 : Int32))), .val (.long z5_l23), .second, .val (.long pp), .second, .val (.long ((pp % bur) + (1 : Int64))), .second, .unset, .unset, .unset] [(.int z8_s0)]))
    refine Goes.go (fun _ k => XS.istore X4.here hx rfl (hb hby at_177) rfl (l' := #[.val (.int p0), .val (.int p1), .val (.long q2), .second, .val (.long q3), .second, .val (.long q4), .second, .val (.int p5), .val (.long lim), .second, .val (.long per), .second, .val (.long bur), .second, .val (.ref b1), .val (.long cap), .second, .val (.long pt), .second, .val (.long mm), .second, .val (.int (p5 &&& (3 : Int32))), .val (.long z5_l23), .second, .val (.long pp), .second, .val (.long ((pp % bur) + (1 : Int64))), .second, .val (.int z8_s0), .unset, .unset]) rfl k) ?_
    show Goes p e below s _ _ _ (T4.setTop (mkF m 179 #[.val (.int p0), .val (.int p1), .val (.long q2), .second, .val (.long q3), .second, .val (.long q4), .second, .val (.int p5), .val (.long lim), .second, .val (.long per), .second, .val (.long bur), .second, .val (.ref b1), .val (.long cap), .second, .val (.long pt), .second, .val (.long mm), .second, .val (.int (p5 &&& (3 : Int32))), .val (.long z5_l23), .second, .val (.long pp), .second, .val (.long ((pp % bur) + (1 : Int64))), .second, .val (.int z8_s0), .unset, .unset] []))
    refine Goes.go (fun _ k => X4.ldc2Long hx hown (mvT hZ (hw _ (List.mem_of_getElem? (i := 45) rfl))) (g := (mkF m 179 #[.val (.int p0), .val (.int p1), .val (.long q2), .second, .val (.long q3), .second, .val (.long q4), .second, .val (.int p5), .val (.long lim), .second, .val (.long per), .second, .val (.long bur), .second, .val (.ref b1), .val (.long cap), .second, .val (.long pt), .second, .val (.long mm), .second, .val (.int (p5 &&& (3 : Int32))), .val (.long z5_l23), .second, .val (.long pp), .second, .val (.long ((pp % bur) + (1 : Int64))), .second, .val (.int z8_s0), .unset, .unset] [])) rfl (hb hby at_179) _ k) ?_
    show Goes p e below s _ _ _ (T4.setTop (mkF m 182 #[.val (.int p0), .val (.int p1), .val (.long q2), .second, .val (.long q3), .second, .val (.long q4), .second, .val (.int p5), .val (.long lim), .second, .val (.long per), .second, .val (.long bur), .second, .val (.ref b1), .val (.long cap), .second, .val (.long pt), .second, .val (.long mm), .second, .val (.int (p5 &&& (3 : Int32))), .val (.long z5_l23), .second, .val (.long pp), .second, .val (.long ((pp % bur) + (1 : Int64))), .second, .val (.int z8_s0), .unset, .unset] [(.long (-1 : Int64))]))
    refine Goes.go (fun _ k => XS.lstore X4.here hx rfl (hb hby at_182) rfl (l' := #[.val (.int p0), .val (.int p1), .val (.long q2), .second, .val (.long q3), .second, .val (.long q4), .second, .val (.int p5), .val (.long lim), .second, .val (.long per), .second, .val (.long bur), .second, .val (.ref b1), .val (.long cap), .second, .val (.long pt), .second, .val (.long mm), .second, .val (.int (p5 &&& (3 : Int32))), .val (.long z5_l23), .second, .val (.long pp), .second, .val (.long ((pp % bur) + (1 : Int64))), .second, .val (.int z8_s0), .val (.long (-1 : Int64)), .second]) rfl k) ?_
    show Goes p e below s _ _ _ (T4.setTop (mkF m 184 #[.val (.int p0), .val (.int p1), .val (.long q2), .second, .val (.long q3), .second, .val (.long q4), .second, .val (.int p5), .val (.long lim), .second, .val (.long per), .second, .val (.long bur), .second, .val (.ref b1), .val (.long cap), .second, .val (.long pt), .second, .val (.long mm), .second, .val (.int (p5 &&& (3 : Int32))), .val (.long z5_l23), .second, .val (.long pp), .second, .val (.long ((pp % bur) + (1 : Int64))), .second, .val (.int z8_s0), .val (.long (-1 : Int64)), .second] []))
    refine Goes.go (fun _ k => XS.iload X4.here hx rfl (hb hby at_184) rfl  k) ?_
    show Goes p e below s _ _ _ (T4.setTop (mkF m 186 #[.val (.int p0), .val (.int p1), .val (.long q2), .second, .val (.long q3), .second, .val (.long q4), .second, .val (.int p5), .val (.long lim), .second, .val (.long per), .second, .val (.long bur), .second, .val (.ref b1), .val (.long cap), .second, .val (.long pt), .second, .val (.long mm), .second, .val (.int (p5 &&& (3 : Int32))), .val (.long z5_l23), .second, .val (.long pp), .second, .val (.long ((pp % bur) + (1 : Int64))), .second, .val (.int z8_s0), .val (.long (-1 : Int64)), .second] [(.int z8_s0)]))
    obtain ⟨z10_l30, hz10_l30⟩ : ∃ z : Int64, z = if z8_s0 = (0 : Int32) then (-1 : Int64) else (z5_l23 + (((pp % bur) + (1 : Int64)) * pt)) := ⟨_, rfl⟩
    have sm10 : ∀ t, Steps p.tables e below (T4.setTop (mkF m 199 #[.val (.int p0), .val (.int p1), .val (.long q2), .second, .val (.long q3), .second, .val (.long q4), .second, .val (.int p5), .val (.long lim), .second, .val (.long per), .second, .val (.long bur), .second, .val (.ref b1), .val (.long cap), .second, .val (.long pt), .second, .val (.long mm), .second, .val (.int (p5 &&& (3 : Int32))), .val (.long z5_l23), .second, .val (.long pp), .second, .val (.long ((pp % bur) + (1 : Int64))), .second, .val (.int z8_s0), .val (.long z10_l30), .second] [])) t → Steps p.tables e below (T4.setTop (mkF m 186 #[.val (.int p0), .val (.int p1), .val (.long q2), .second, .val (.long q3), .second, .val (.long q4), .second, .val (.int p5), .val (.long lim), .second, .val (.long per), .second, .val (.long bur), .second, .val (.ref b1), .val (.long cap), .second, .val (.long pt), .second, .val (.long mm), .second, .val (.int (p5 &&& (3 : Int32))), .val (.long z5_l23), .second, .val (.long pp), .second, .val (.long ((pp % bur) + (1 : Int64))), .second, .val (.int z8_s0), .val (.long (-1 : Int64)), .second] [(.int z8_s0)])) t := by
      intro t k
      by_cases hc186_10 : z8_s0 = (0 : Int32)
      · have k2 : Steps p.tables e below (T4.setTop (mkF m 199 #[.val (.int p0), .val (.int p1), .val (.long q2), .second, .val (.long q3), .second, .val (.long q4), .second, .val (.int p5), .val (.long lim), .second, .val (.long per), .second, .val (.long bur), .second, .val (.ref b1), .val (.long cap), .second, .val (.long pt), .second, .val (.long mm), .second, .val (.int (p5 &&& (3 : Int32))), .val (.long z5_l23), .second, .val (.long pp), .second, .val (.long ((pp % bur) + (1 : Int64))), .second, .val (.int z8_s0), .val (.long (-1 : Int64)), .second] [])) t := by simpa only [hz10_l30, if_pos hc186_10] using k
        show Steps p.tables e below (T4.setTop (mkF m 186 #[.val (.int p0), .val (.int p1), .val (.long q2), .second, .val (.long q3), .second, .val (.long q4), .second, .val (.int p5), .val (.long lim), .second, .val (.long per), .second, .val (.long bur), .second, .val (.ref b1), .val (.long cap), .second, .val (.long pt), .second, .val (.long mm), .second, .val (.int (p5 &&& (3 : Int32))), .val (.long z5_l23), .second, .val (.long pp), .second, .val (.long ((pp % bur) + (1 : Int64))), .second, .val (.int z8_s0), .val (.long (-1 : Int64)), .second] [(.int z8_s0)])) _
        refine XS.ifYes X4.here hx rfl (pc0 := 186) (pc' := 199) rfl (hb hby at_186) rfl ((if0 _ _).trans (teq hc186_10).1) (by decide) (by decide) ?_
        exact k2
      · have k2 : Steps p.tables e below (T4.setTop (mkF m 199 #[.val (.int p0), .val (.int p1), .val (.long q2), .second, .val (.long q3), .second, .val (.long q4), .second, .val (.int p5), .val (.long lim), .second, .val (.long per), .second, .val (.long bur), .second, .val (.ref b1), .val (.long cap), .second, .val (.long pt), .second, .val (.long mm), .second, .val (.int (p5 &&& (3 : Int32))), .val (.long z5_l23), .second, .val (.long pp), .second, .val (.long ((pp % bur) + (1 : Int64))), .second, .val (.int z8_s0), .val (.long (z5_l23 + (((pp % bur) + (1 : Int64)) * pt))), .second] [])) t := by simpa only [hz10_l30, if_neg hc186_10] using k
        show Steps p.tables e below (T4.setTop (mkF m 186 #[.val (.int p0), .val (.int p1), .val (.long q2), .second, .val (.long q3), .second, .val (.long q4), .second, .val (.int p5), .val (.long lim), .second, .val (.long per), .second, .val (.long bur), .second, .val (.ref b1), .val (.long cap), .second, .val (.long pt), .second, .val (.long mm), .second, .val (.int (p5 &&& (3 : Int32))), .val (.long z5_l23), .second, .val (.long pp), .second, .val (.long ((pp % bur) + (1 : Int64))), .second, .val (.int z8_s0), .val (.long (-1 : Int64)), .second] [(.int z8_s0)])) _
        refine XS.ifNo X4.here hx rfl (hb hby at_186) rfl ((if0 _ _).trans (feq hc186_10).1) ?_
        show Steps p.tables e below (T4.setTop (mkF m 189 #[.val (.int p0), .val (.int p1), .val (.long q2), .second, .val (.long q3), .second, .val (.long q4), .second, .val (.int p5), .val (.long lim), .second, .val (.long per), .second, .val (.long bur), .second, .val (.ref b1), .val (.long cap), .second, .val (.long pt), .second, .val (.long mm), .second, .val (.int (p5 &&& (3 : Int32))), .val (.long z5_l23), .second, .val (.long pp), .second, .val (.long ((pp % bur) + (1 : Int64))), .second, .val (.int z8_s0), .val (.long (-1 : Int64)), .second] [])) _
        refine XS.lload X4.here hx rfl (hb hby at_189) rfl  ?_
        show Steps p.tables e below (T4.setTop (mkF m 191 #[.val (.int p0), .val (.int p1), .val (.long q2), .second, .val (.long q3), .second, .val (.long q4), .second, .val (.int p5), .val (.long lim), .second, .val (.long per), .second, .val (.long bur), .second, .val (.ref b1), .val (.long cap), .second, .val (.long pt), .second, .val (.long mm), .second, .val (.int (p5 &&& (3 : Int32))), .val (.long z5_l23), .second, .val (.long pp), .second, .val (.long ((pp % bur) + (1 : Int64))), .second, .val (.int z8_s0), .val (.long (-1 : Int64)), .second] [(.long z5_l23)])) _
        refine XS.lload X4.here hx rfl (hb hby at_191) rfl  ?_
        show Steps p.tables e below (T4.setTop (mkF m 193 #[.val (.int p0), .val (.int p1), .val (.long q2), .second, .val (.long q3), .second, .val (.long q4), .second, .val (.int p5), .val (.long lim), .second, .val (.long per), .second, .val (.long bur), .second, .val (.ref b1), .val (.long cap), .second, .val (.long pt), .second, .val (.long mm), .second, .val (.int (p5 &&& (3 : Int32))), .val (.long z5_l23), .second, .val (.long pp), .second, .val (.long ((pp % bur) + (1 : Int64))), .second, .val (.int z8_s0), .val (.long (-1 : Int64)), .second] [(.long ((pp % bur) + (1 : Int64))), (.long z5_l23)])) _
        refine XS.lload X4.here hx rfl (hb hby at_193) rfl  ?_
        show Steps p.tables e below (T4.setTop (mkF m 195 #[.val (.int p0), .val (.int p1), .val (.long q2), .second, .val (.long q3), .second, .val (.long q4), .second, .val (.int p5), .val (.long lim), .second, .val (.long per), .second, .val (.long bur), .second, .val (.ref b1), .val (.long cap), .second, .val (.long pt), .second, .val (.long mm), .second, .val (.int (p5 &&& (3 : Int32))), .val (.long z5_l23), .second, .val (.long pp), .second, .val (.long ((pp % bur) + (1 : Int64))), .second, .val (.int z8_s0), .val (.long (-1 : Int64)), .second] [(.long pt), (.long ((pp % bur) + (1 : Int64))), (.long z5_l23)])) _
        refine XS.lmul X4.here hx rfl (hb hby at_195) rfl ?_
        show Steps p.tables e below (T4.setTop (mkF m 196 #[.val (.int p0), .val (.int p1), .val (.long q2), .second, .val (.long q3), .second, .val (.long q4), .second, .val (.int p5), .val (.long lim), .second, .val (.long per), .second, .val (.long bur), .second, .val (.ref b1), .val (.long cap), .second, .val (.long pt), .second, .val (.long mm), .second, .val (.int (p5 &&& (3 : Int32))), .val (.long z5_l23), .second, .val (.long pp), .second, .val (.long ((pp % bur) + (1 : Int64))), .second, .val (.int z8_s0), .val (.long (-1 : Int64)), .second] [(.long (((pp % bur) + (1 : Int64)) * pt)), (.long z5_l23)])) _
        refine XS.ladd X4.here hx rfl (hb hby at_196) rfl ?_
        show Steps p.tables e below (T4.setTop (mkF m 197 #[.val (.int p0), .val (.int p1), .val (.long q2), .second, .val (.long q3), .second, .val (.long q4), .second, .val (.int p5), .val (.long lim), .second, .val (.long per), .second, .val (.long bur), .second, .val (.ref b1), .val (.long cap), .second, .val (.long pt), .second, .val (.long mm), .second, .val (.int (p5 &&& (3 : Int32))), .val (.long z5_l23), .second, .val (.long pp), .second, .val (.long ((pp % bur) + (1 : Int64))), .second, .val (.int z8_s0), .val (.long (-1 : Int64)), .second] [(.long (z5_l23 + (((pp % bur) + (1 : Int64)) * pt)))])) _
        refine XS.lstore X4.here hx rfl (hb hby at_197) rfl (l' := #[.val (.int p0), .val (.int p1), .val (.long q2), .second, .val (.long q3), .second, .val (.long q4), .second, .val (.int p5), .val (.long lim), .second, .val (.long per), .second, .val (.long bur), .second, .val (.ref b1), .val (.long cap), .second, .val (.long pt), .second, .val (.long mm), .second, .val (.int (p5 &&& (3 : Int32))), .val (.long z5_l23), .second, .val (.long pp), .second, .val (.long ((pp % bur) + (1 : Int64))), .second, .val (.int z8_s0), .val (.long (z5_l23 + (((pp % bur) + (1 : Int64)) * pt))), .second]) rfl ?_
        exact k2
    refine Goes.go sm10 ?_
    show Goes p e below s _ _ _ (T4.setTop (mkF m 199 #[.val (.int p0), .val (.int p1), .val (.long q2), .second, .val (.long q3), .second, .val (.long q4), .second, .val (.int p5), .val (.long lim), .second, .val (.long per), .second, .val (.long bur), .second, .val (.ref b1), .val (.long cap), .second, .val (.long pt), .second, .val (.long mm), .second, .val (.int (p5 &&& (3 : Int32))), .val (.long z5_l23), .second, .val (.long pp), .second, .val (.long ((pp % bur) + (1 : Int64))), .second, .val (.int z8_s0), .val (.long z10_l30), .second] []))
    refine Goes.go (fun _ k => XS.aload X4.here hx rfl (hb hby at_199) rfl rfl  k) ?_
    show Goes p e below s _ _ _ (T4.setTop (mkF m 201 #[.val (.int p0), .val (.int p1), .val (.long q2), .second, .val (.long q3), .second, .val (.long q4), .second, .val (.int p5), .val (.long lim), .second, .val (.long per), .second, .val (.long bur), .second, .val (.ref b1), .val (.long cap), .second, .val (.long pt), .second, .val (.long mm), .second, .val (.int (p5 &&& (3 : Int32))), .val (.long z5_l23), .second, .val (.long pp), .second, .val (.long ((pp % bur) + (1 : Int64))), .second, .val (.int z8_s0), .val (.long z10_l30), .second] [(.ref b1)]))
    refine Goes.go (fun _ k => XS.lload X4.here hx rfl (hb hby at_201) rfl  k) ?_
    show Goes p e below s _ _ _ (T4.setTop (mkF m 203 #[.val (.int p0), .val (.int p1), .val (.long q2), .second, .val (.long q3), .second, .val (.long q4), .second, .val (.int p5), .val (.long lim), .second, .val (.long per), .second, .val (.long bur), .second, .val (.ref b1), .val (.long cap), .second, .val (.long pt), .second, .val (.long mm), .second, .val (.int (p5 &&& (3 : Int32))), .val (.long z5_l23), .second, .val (.long pp), .second, .val (.long ((pp % bur) + (1 : Int64))), .second, .val (.int z8_s0), .val (.long z10_l30), .second] [(.long z5_l23), (.ref b1)]))
    refine Goes.go (fun _ k => XS.lload X4.here hx rfl (hb hby at_203) rfl  k) ?_
    show Goes p e below s _ _ _ (T4.setTop (mkF m 205 #[.val (.int p0), .val (.int p1), .val (.long q2), .second, .val (.long q3), .second, .val (.long q4), .second, .val (.int p5), .val (.long lim), .second, .val (.long per), .second, .val (.long bur), .second, .val (.ref b1), .val (.long cap), .second, .val (.long pt), .second, .val (.long mm), .second, .val (.int (p5 &&& (3 : Int32))), .val (.long z5_l23), .second, .val (.long pp), .second, .val (.long ((pp % bur) + (1 : Int64))), .second, .val (.int z8_s0), .val (.long z10_l30), .second] [(.long ((pp % bur) + (1 : Int64))), (.long z5_l23), (.ref b1)]))
    obtain ⟨cq11, kq11, q11a, q11b, q11c⟩ := isOf hZ e4 G2_0
    obtain ⟨_, _, ⟨T11, L11, k11, n11⟩, -, X11, ⟨Lc11, hQ11, l11, y11, z11⟩, st11⟩ := X4.virtualBack hx (y := (⟨"com/example/danaid/danaid/TokenBucketUnits", "missingAfterTaking", "(JJ)J"⟩ : MethodName)) (z := (⟨"com/example/danaid/danaid/TokenBucketUnits", "missingAfterTaking", "(JJ)J"⟩ : MethodName)) hown (mvT hZ (hw _ (List.mem_of_getElem? (i := 46) rfl))) (mvT hZ (hw _ (List.mem_of_getElem? (i := 47) rfl))) (notFace_of_selects (args := #[]) (mvT hZ (hw _ (List.mem_of_getElem? (i := 49) rfl)))) (mvT hZ (hw _ (List.mem_of_getElem? (i := 49) rfl))) (mvT hZ (hw _ (List.mem_of_getElem? (i := 48) rfl))) (by decide) (backOf (W := 0) (rm8 l Z a0 hw [] b1 z5_l23 ((pp % bur) + (1 : Int64)) bur (bur * (per / (own_g lim per))) (per / (own_g lim per)) h2 n0 Z2 G2_3 G2_6 G2_4) hZ (hw _ (List.mem_of_getElem? (i := 50) rfl)) (hw _ (List.mem_of_getElem? (i := 4) rfl)) (by decide) (by decide)) q11a q11c (g := (mkF m 205 #[.val (.int p0), .val (.int p1), .val (.long q2), .second, .val (.long q3), .second, .val (.long q4), .second, .val (.int p5), .val (.long lim), .second, .val (.long per), .second, .val (.long bur), .second, .val (.ref b1), .val (.long cap), .second, .val (.long pt), .second, .val (.long mm), .second, .val (.int (p5 &&& (3 : Int32))), .val (.long z5_l23), .second, .val (.long pp), .second, .val (.long ((pp % bur) + (1 : Int64))), .second, .val (.int z8_s0), .val (.long z10_l30), .second] [(.long ((pp % bur) + (1 : Int64))), (.long z5_l23), (.ref b1)])) rfl (by rw [hml]; rfl) (Steps.refl _) (argsL := [(.long z5_l23), (.long ((pp % bur) + (1 : Int64)))]) (rest := []) (lenOf pd_1 rfl) rfl (by show 2 * 0 + _ ≤ _; exact Nat.le_of_eq rfl) (hb hby at_205) (fun _ _ => ⟨rfl, e4, (by decide : 1 + 0 ≤ _), (by decide : 7 + 0 ≤ _)⟩)
    dsimp only [Pt.U, Pt.locs, Pt.cells, Pt.slots] at X11 l11 y11 z11 st11 hQ11
    subst l11 y11 z11
    obtain ⟨rfl, N11q, e11⟩ := hQ11
    have N11 := Fr.app N4 N11q
    refine Goes.tr st11 ?_
    show Goes p e below s _ _ _ (T11.setTop (mkF m 208 #[.val (.int p0), .val (.int p1), .val (.long q2), .second, .val (.long q3), .second, .val (.long q4), .second, .val (.int p5), .val (.long lim), .second, .val (.long per), .second, .val (.long bur), .second, .val (.ref b1), .val (.long cap), .second, .val (.long pt), .second, .val (.long mm), .second, .val (.int (p5 &&& (3 : Int32))), .val (.long z5_l23), .second, .val (.long pp), .second, .val (.long ((pp % bur) + (1 : Int64))), .second, .val (.int z8_s0), .val (.long z10_l30), .second] [(.long (f8 b1 z5_l23 ((pp % bur) + (1 : Int64)) bur (bur * (per / (own_g lim per))) (per / (own_g lim per))))]))
    refine Goes.go (fun _ k => XS.lload X11.here hx rfl (hb hby at_208) rfl  k) ?_
    show Goes p e below s _ _ _ (T11.setTop (mkF m 210 #[.val (.int p0), .val (.int p1), .val (.long q2), .second, .val (.long q3), .second, .val (.long q4), .second, .val (.int p5), .val (.long lim), .second, .val (.long per), .second, .val (.long bur), .second, .val (.ref b1), .val (.long cap), .second, .val (.long pt), .second, .val (.long mm), .second, .val (.int (p5 &&& (3 : Int32))), .val (.long z5_l23), .second, .val (.long pp), .second, .val (.long ((pp % bur) + (1 : Int64))), .second, .val (.int z8_s0), .val (.long z10_l30), .second] [(.long z10_l30), (.long (f8 b1 z5_l23 ((pp % bur) + (1 : Int64)) bur (bur * (per / (own_g lim per))) (per / (own_g lim per))))]))
    refine Goes.go (fun _ k => XS.lcmp X11.here hx rfl (hb hby at_210) rfl k) ?_
    show Goes p e below s _ _ _ (T11.setTop (mkF m 211 #[.val (.int p0), .val (.int p1), .val (.long q2), .second, .val (.long q3), .second, .val (.long q4), .second, .val (.int p5), .val (.long lim), .second, .val (.long per), .second, .val (.long bur), .second, .val (.ref b1), .val (.long cap), .second, .val (.long pt), .second, .val (.long mm), .second, .val (.int (p5 &&& (3 : Int32))), .val (.long z5_l23), .second, .val (.long pp), .second, .val (.long ((pp % bur) + (1 : Int64))), .second, .val (.int z8_s0), .val (.long z10_l30), .second] [(.int (lcmpW (f8 b1 z5_l23 ((pp % bur) + (1 : Int64)) bur (bur * (per / (own_g lim per))) (per / (own_g lim per))) z10_l30))]))
    have hc211_12 : (f8 b1 z5_l23 ((pp % bur) + (1 : Int64)) bur (bur * (per / (own_g lim per))) (per / (own_g lim per))) = z10_l30 := by have hprm : 0 < (((pp % bur) + (1 : Int64))).toInt := own_p2 hpp hbur; rw [hz10_l30, hz8_s0]; rw [show (per / (own_g lim per)) = pt from ept, ecap]; exact own_law _ hpt hbur hcap hmis hprm
    refine Goes.go (fun _ k => XS.ifNo X11.here hx rfl (hb hby at_211) rfl ((if0 _ _).trans (teq ((lw_eq (f8 b1 z5_l23 ((pp % bur) + (1 : Int64)) bur (bur * (per / (own_g lim per))) (per / (own_g lim per))) z10_l30).mpr hc211_12)).2) k) ?_
    show Goes p e below s _ _ _ (T11.setTop (mkF m 214 #[.val (.int p0), .val (.int p1), .val (.long q2), .second, .val (.long q3), .second, .val (.long q4), .second, .val (.int p5), .val (.long lim), .second, .val (.long per), .second, .val (.long bur), .second, .val (.ref b1), .val (.long cap), .second, .val (.long pt), .second, .val (.long mm), .second, .val (.int (p5 &&& (3 : Int32))), .val (.long z5_l23), .second, .val (.long pp), .second, .val (.long ((pp % bur) + (1 : Int64))), .second, .val (.int z8_s0), .val (.long z10_l30), .second] []))
    refine Goes.go (fun _ k => XS.iconst X11.here hx rfl (hb hby at_214) k) ?_
    show Goes p e below s _ _ _ (T11.setTop (mkF m 215 #[.val (.int p0), .val (.int p1), .val (.long q2), .second, .val (.long q3), .second, .val (.long q4), .second, .val (.int p5), .val (.long lim), .second, .val (.long per), .second, .val (.long bur), .second, .val (.ref b1), .val (.long cap), .second, .val (.long pt), .second, .val (.long mm), .second, .val (.int (p5 &&& (3 : Int32))), .val (.long z5_l23), .second, .val (.long pp), .second, .val (.long ((pp % bur) + (1 : Int64))), .second, .val (.int z8_s0), .val (.long z10_l30), .second] [(.int (1 : Int32))]))
    refine Goes.go (fun _ k => XS.goto X11.here hx rfl (pc0 := 215) (pc' := 219) rfl (hb hby at_215) (by decide) (by decide) k) ?_
    show Goes p e below s _ _ _ (T11.setTop (mkF m 219 #[.val (.int p0), .val (.int p1), .val (.long q2), .second, .val (.long q3), .second, .val (.long q4), .second, .val (.int p5), .val (.long lim), .second, .val (.long per), .second, .val (.long bur), .second, .val (.ref b1), .val (.long cap), .second, .val (.long pt), .second, .val (.long mm), .second, .val (.int (p5 &&& (3 : Int32))), .val (.long z5_l23), .second, .val (.long pp), .second, .val (.long ((pp % bur) + (1 : Int64))), .second, .val (.int z8_s0), .val (.long z10_l30), .second] [(.int (1 : Int32))]))
    refine Goes.retN .boolean X11 hx hlk Bd.returns (by simp) (hb hby at_219) ?_ (by decide) (by decide)
    exact ⟨rfl, N11⟩
  · skip
    refine Goes.go (fun _ k => XS.ifNo X4.here hx rfl (hb hby at_127) rfl ((if0 _ _).trans (feq hc127_7).1) k) ?_
    show Goes p e below s _ _ _ (T4.setTop (mkF m 130 #[.val (.int p0), .val (.int p1), .val (.long q2), .second, .val (.long q3), .second, .val (.long q4), .second, .val (.int p5), .val (.long lim), .second, .val (.long per), .second, .val (.long bur), .second, .val (.ref b1), .val (.long cap), .second, .val (.long pt), .second, .val (.long mm), .second, .val (.int (p5 &&& (3 : Int32))), .val (.long z5_l23), .second, .val (.long pp), .second, .unset, .unset, .unset, .unset, .unset] []))
    refine Goes.go (fun _ k => XS.lconst X4.here hx rfl (hb hby at_130) k) ?_
    show Goes p e below s _ _ _ (T4.setTop (mkF m 131 #[.val (.int p0), .val (.int p1), .val (.long q2), .second, .val (.long q3), .second, .val (.long q4), .second, .val (.int p5), .val (.long lim), .second, .val (.long per), .second, .val (.long bur), .second, .val (.ref b1), .val (.long cap), .second, .val (.long pt), .second, .val (.long mm), .second, .val (.int (p5 &&& (3 : Int32))), .val (.long z5_l23), .second, .val (.long pp), .second, .unset, .unset, .unset, .unset, .unset] [(.long (1 : Int64))]))
    refine Goes.go (fun _ k => XS.lload X4.here hx rfl (hb hby at_131) rfl  k) ?_
    show Goes p e below s _ _ _ (T4.setTop (mkF m 133 #[.val (.int p0), .val (.int p1), .val (.long q2), .second, .val (.long q3), .second, .val (.long q4), .second, .val (.int p5), .val (.long lim), .second, .val (.long per), .second, .val (.long bur), .second, .val (.ref b1), .val (.long cap), .second, .val (.long pt), .second, .val (.long mm), .second, .val (.int (p5 &&& (3 : Int32))), .val (.long z5_l23), .second, .val (.long pp), .second, .unset, .unset, .unset, .unset, .unset] [(.long pp), (.long (1 : Int64))]))
    obtain ⟨_, _, ⟨T13, L13, k13, n13⟩, -, X13, ⟨Lc13, hQ13, l13, y13, z13⟩, st13⟩ := Jvm.LawKit.callS X4 hx (y := (⟨"java/lang/Math", "max", "(JJ)J"⟩ : MethodName)) hown (mvT hZ (hw _ (List.mem_of_getElem? (i := 52) rfl))) (mvT hZ (hw _ (List.mem_of_getElem? (i := 53) rfl))) (mvT hZ (hw _ (List.mem_of_getElem? (i := 26) rfl))) (mvT hZ (hw _ (List.mem_of_getElem? (i := 54) rfl))) (by decide) (backOf (W := 0) (rm9 l Z a0 hw [] (1 : Int64) pp h2 n0 Z2 ) hZ (hw _ (List.mem_of_getElem? (i := 54) rfl)) (hw _ (List.mem_of_getElem? (i := 26) rfl)) (by decide) (by decide)) (g := (mkF m 133 #[.val (.int p0), .val (.int p1), .val (.long q2), .second, .val (.long q3), .second, .val (.long q4), .second, .val (.int p5), .val (.long lim), .second, .val (.long per), .second, .val (.long bur), .second, .val (.ref b1), .val (.long cap), .second, .val (.long pt), .second, .val (.long mm), .second, .val (.int (p5 &&& (3 : Int32))), .val (.long z5_l23), .second, .val (.long pp), .second, .unset, .unset, .unset, .unset, .unset] [(.long pp), (.long (1 : Int64))])) rfl (by rw [hml]; rfl) (argsL := [(.long (1 : Int64)), (.long pp)]) (rest := []) (lenOf pd_1 rfl) rfl (by show 2 * 0 + _ ≤ _; exact Nat.le_of_eq rfl) (hb hby at_133) (fun _ _ => ⟨rfl, e4, (by decide : 1 + 0 ≤ _), (by decide : 7 + 0 ≤ _)⟩)
    dsimp only [Pt.U, Pt.locs, Pt.cells, Pt.slots] at X13 l13 y13 z13 st13 hQ13
    subst l13 y13 z13
    obtain ⟨rfl, N13q, e13⟩ := hQ13
    have N13 := Fr.app N4 N13q
    refine Goes.go st13 ?_
    show Goes p e below s _ _ _ (T13.setTop (mkF m 136 #[.val (.int p0), .val (.int p1), .val (.long q2), .second, .val (.long q3), .second, .val (.long q4), .second, .val (.int p5), .val (.long lim), .second, .val (.long per), .second, .val (.long bur), .second, .val (.ref b1), .val (.long cap), .second, .val (.long pt), .second, .val (.long mm), .second, .val (.int (p5 &&& (3 : Int32))), .val (.long z5_l23), .second, .val (.long pp), .second, .unset, .unset, .unset, .unset, .unset] [(.long (f9 (1 : Int64) pp))]))
    refine Goes.go (fun _ k => XS.lstore X13.here hx rfl (hb hby at_136) rfl (l' := #[.val (.int p0), .val (.int p1), .val (.long q2), .second, .val (.long q3), .second, .val (.long q4), .second, .val (.int p5), .val (.long lim), .second, .val (.long per), .second, .val (.long bur), .second, .val (.ref b1), .val (.long cap), .second, .val (.long pt), .second, .val (.long mm), .second, .val (.int (p5 &&& (3 : Int32))), .val (.long z5_l23), .second, .val (.long pp), .second, .val (.long (f9 (1 : Int64) pp)), .second, .unset, .unset, .unset]) rfl k) ?_
    show Goes p e below s _ _ _ (T13.setTop (mkF m 138 #[.val (.int p0), .val (.int p1), .val (.long q2), .second, .val (.long q3), .second, .val (.long q4), .second, .val (.int p5), .val (.long lim), .second, .val (.long per), .second, .val (.long bur), .second, .val (.ref b1), .val (.long cap), .second, .val (.long pt), .second, .val (.long mm), .second, .val (.int (p5 &&& (3 : Int32))), .val (.long z5_l23), .second, .val (.long pp), .second, .val (.long (f9 (1 : Int64) pp)), .second, .unset, .unset, .unset] []))
    refine Goes.go (fun _ k => XS.goto X13.here hx rfl (pc0 := 138) (pc' := 150) rfl (hb hby at_138) (by decide) (by decide) k) ?_
    show Goes p e below s _ _ _ (T13.setTop (mkF m 150 #[.val (.int p0), .val (.int p1), .val (.long q2), .second, .val (.long q3), .second, .val (.long q4), .second, .val (.int p5), .val (.long lim), .second, .val (.long per), .second, .val (.long bur), .second, .val (.ref b1), .val (.long cap), .second, .val (.long pt), .second, .val (.long mm), .second, .val (.int (p5 &&& (3 : Int32))), .val (.long z5_l23), .second, .val (.long pp), .second, .val (.long (f9 (1 : Int64) pp)), .second, .unset, .unset, .unset] []))
    refine Goes.go (fun _ k => XS.lload X13.here hx rfl (hb hby at_150) rfl  k) ?_
    show Goes p e below s _ _ _ (T13.setTop (mkF m 152 #[.val (.int p0), .val (.int p1), .val (.long q2), .second, .val (.long q3), .second, .val (.long q4), .second, .val (.int p5), .val (.long lim), .second, .val (.long per), .second, .val (.long bur), .second, .val (.ref b1), .val (.long cap), .second, .val (.long pt), .second, .val (.long mm), .second, .val (.int (p5 &&& (3 : Int32))), .val (.long z5_l23), .second, .val (.long pp), .second, .val (.long (f9 (1 : Int64) pp)), .second, .unset, .unset, .unset] [(.long z5_l23)]))
    refine Goes.go (fun _ k => XS.lload X13.here hx rfl (hb hby at_152) rfl  k) ?_
    show Goes p e below s _ _ _ (T13.setTop (mkF m 154 #[.val (.int p0), .val (.int p1), .val (.long q2), .second, .val (.long q3), .second, .val (.long q4), .second, .val (.int p5), .val (.long lim), .second, .val (.long per), .second, .val (.long bur), .second, .val (.ref b1), .val (.long cap), .second, .val (.long pt), .second, .val (.long mm), .second, .val (.int (p5 &&& (3 : Int32))), .val (.long z5_l23), .second, .val (.long pp), .second, .val (.long (f9 (1 : Int64) pp)), .second, .unset, .unset, .unset] [(.long cap), (.long z5_l23)]))
    refine Goes.go (fun _ k => XS.lcmp X13.here hx rfl (hb hby at_154) rfl k) ?_
    show Goes p e below s _ _ _ (T13.setTop (mkF m 155 #[.val (.int p0), .val (.int p1), .val (.long q2), .second, .val (.long q3), .second, .val (.long q4), .second, .val (.int p5), .val (.long lim), .second, .val (.long per), .second, .val (.long bur), .second, .val (.ref b1), .val (.long cap), .second, .val (.long pt), .second, .val (.long mm), .second, .val (.int (p5 &&& (3 : Int32))), .val (.long z5_l23), .second, .val (.long pp), .second, .val (.long (f9 (1 : Int64) pp)), .second, .unset, .unset, .unset] [(.int (lcmpW z5_l23 cap))]))
    obtain ⟨z14_s0, hz14_s0⟩ : ∃ z : Int32, z = if cap < z5_l23 then (0 : Int32) else (if ((cap - z5_l23) / pt) < (f9 (1 : Int64) pp) then (0 : Int32) else (1 : Int32)) := ⟨_, rfl⟩
    have sm14 : ∀ t, Steps p.tables e below (T13.setTop (mkF m 177 #[.val (.int p0), .val (.int p1), .val (.long q2), .second, .val (.long q3), .second, .val (.long q4), .second, .val (.int p5), .val (.long lim), .second, .val (.long per), .second, .val (.long bur), .second, .val (.ref b1), .val (.long cap), .second, .val (.long pt), .second, .val (.long mm), .second, .val (.int (p5 &&& (3 : Int32))), .val (.long z5_l23), .second, .val (.long pp), .second, .val (.long (f9 (1 : Int64) pp)), .second, .unset, .unset, .unset] [(.int z14_s0)])) t → Steps p.tables e below (T13.setTop (mkF m 155 #[.val (.int p0), .val (.int p1), .val (.long q2), .second, .val (.long q3), .second, .val (.long q4), .second, .val (.int p5), .val (.long lim), .second, .val (.long per), .second, .val (.long bur), .second, .val (.ref b1), .val (.long cap), .second, .val (.long pt), .second, .val (.long mm), .second, .val (.int (p5 &&& (3 : Int32))), .val (.long z5_l23), .second, .val (.long pp), .second, .val (.long (f9 (1 : Int64) pp)), .second, .unset, .unset, .unset] [(.int (lcmpW z5_l23 cap))])) t := by
      intro t k
      by_cases hc155_14 : cap < z5_l23
      · have k2 : Steps p.tables e below (T13.setTop (mkF m 177 #[.val (.int p0), .val (.int p1), .val (.long q2), .second, .val (.long q3), .second, .val (.long q4), .second, .val (.int p5), .val (.long lim), .second, .val (.long per), .second, .val (.long bur), .second, .val (.ref b1), .val (.long cap), .second, .val (.long pt), .second, .val (.long mm), .second, .val (.int (p5 &&& (3 : Int32))), .val (.long z5_l23), .second, .val (.long pp), .second, .val (.long (f9 (1 : Int64) pp)), .second, .unset, .unset, .unset] [(.int (0 : Int32))])) t := by simpa only [hz14_s0, if_pos hc155_14] using k
        show Steps p.tables e below (T13.setTop (mkF m 155 #[.val (.int p0), .val (.int p1), .val (.long q2), .second, .val (.long q3), .second, .val (.long q4), .second, .val (.int p5), .val (.long lim), .second, .val (.long per), .second, .val (.long bur), .second, .val (.ref b1), .val (.long cap), .second, .val (.long pt), .second, .val (.long mm), .second, .val (.int (p5 &&& (3 : Int32))), .val (.long z5_l23), .second, .val (.long pp), .second, .val (.long (f9 (1 : Int64) pp)), .second, .unset, .unset, .unset] [(.int (lcmpW z5_l23 cap))])) _
        refine XS.ifYes X13.here hx rfl (pc0 := 155) (pc' := 176) rfl (hb hby at_155) rfl ((if0 _ _).trans (tlt ((lw_gt z5_l23 cap).mpr hc155_14)).2.2.1) (by decide) (by decide) ?_
        show Steps p.tables e below (T13.setTop (mkF m 176 #[.val (.int p0), .val (.int p1), .val (.long q2), .second, .val (.long q3), .second, .val (.long q4), .second, .val (.int p5), .val (.long lim), .second, .val (.long per), .second, .val (.long bur), .second, .val (.ref b1), .val (.long cap), .second, .val (.long pt), .second, .val (.long mm), .second, .val (.int (p5 &&& (3 : Int32))), .val (.long z5_l23), .second, .val (.long pp), .second, .val (.long (f9 (1 : Int64) pp)), .second, .unset, .unset, .unset] [])) _
        refine XS.iconst X13.here hx rfl (hb hby at_176) ?_
        exact k2
      · have k2 : Steps p.tables e below (T13.setTop (mkF m 177 #[.val (.int p0), .val (.int p1), .val (.long q2), .second, .val (.long q3), .second, .val (.long q4), .second, .val (.int p5), .val (.long lim), .second, .val (.long per), .second, .val (.long bur), .second, .val (.ref b1), .val (.long cap), .second, .val (.long pt), .second, .val (.long mm), .second, .val (.int (p5 &&& (3 : Int32))), .val (.long z5_l23), .second, .val (.long pp), .second, .val (.long (f9 (1 : Int64) pp)), .second, .unset, .unset, .unset] [(.int (if ((cap - z5_l23) / pt) < (f9 (1 : Int64) pp) then (0 : Int32) else (1 : Int32)))])) t := by simpa only [hz14_s0, if_neg hc155_14] using k
        show Steps p.tables e below (T13.setTop (mkF m 155 #[.val (.int p0), .val (.int p1), .val (.long q2), .second, .val (.long q3), .second, .val (.long q4), .second, .val (.int p5), .val (.long lim), .second, .val (.long per), .second, .val (.long bur), .second, .val (.ref b1), .val (.long cap), .second, .val (.long pt), .second, .val (.long mm), .second, .val (.int (p5 &&& (3 : Int32))), .val (.long z5_l23), .second, .val (.long pp), .second, .val (.long (f9 (1 : Int64) pp)), .second, .unset, .unset, .unset] [(.int (lcmpW z5_l23 cap))])) _
        refine XS.ifNo X13.here hx rfl (hb hby at_155) rfl ((if0 _ _).trans (flt (mt (lw_gt z5_l23 cap).mp hc155_14)).2.2.1) ?_
        show Steps p.tables e below (T13.setTop (mkF m 158 #[.val (.int p0), .val (.int p1), .val (.long q2), .second, .val (.long q3), .second, .val (.long q4), .second, .val (.int p5), .val (.long lim), .second, .val (.long per), .second, .val (.long bur), .second, .val (.ref b1), .val (.long cap), .second, .val (.long pt), .second, .val (.long mm), .second, .val (.int (p5 &&& (3 : Int32))), .val (.long z5_l23), .second, .val (.long pp), .second, .val (.long (f9 (1 : Int64) pp)), .second, .unset, .unset, .unset] [])) _
        refine XS.lload X13.here hx rfl (hb hby at_158) rfl  ?_
        show Steps p.tables e below (T13.setTop (mkF m 160 #[.val (.int p0), .val (.int p1), .val (.long q2), .second, .val (.long q3), .second, .val (.long q4), .second, .val (.int p5), .val (.long lim), .second, .val (.long per), .second, .val (.long bur), .second, .val (.ref b1), .val (.long cap), .second, .val (.long pt), .second, .val (.long mm), .second, .val (.int (p5 &&& (3 : Int32))), .val (.long z5_l23), .second, .val (.long pp), .second, .val (.long (f9 (1 : Int64) pp)), .second, .unset, .unset, .unset] [(.long (f9 (1 : Int64) pp))])) _
        refine XS.lload X13.here hx rfl (hb hby at_160) rfl  ?_
        show Steps p.tables e below (T13.setTop (mkF m 162 #[.val (.int p0), .val (.int p1), .val (.long q2), .second, .val (.long q3), .second, .val (.long q4), .second, .val (.int p5), .val (.long lim), .second, .val (.long per), .second, .val (.long bur), .second, .val (.ref b1), .val (.long cap), .second, .val (.long pt), .second, .val (.long mm), .second, .val (.int (p5 &&& (3 : Int32))), .val (.long z5_l23), .second, .val (.long pp), .second, .val (.long (f9 (1 : Int64) pp)), .second, .unset, .unset, .unset] [(.long cap), (.long (f9 (1 : Int64) pp))])) _
        refine XS.lload X13.here hx rfl (hb hby at_162) rfl  ?_
        show Steps p.tables e below (T13.setTop (mkF m 164 #[.val (.int p0), .val (.int p1), .val (.long q2), .second, .val (.long q3), .second, .val (.long q4), .second, .val (.int p5), .val (.long lim), .second, .val (.long per), .second, .val (.long bur), .second, .val (.ref b1), .val (.long cap), .second, .val (.long pt), .second, .val (.long mm), .second, .val (.int (p5 &&& (3 : Int32))), .val (.long z5_l23), .second, .val (.long pp), .second, .val (.long (f9 (1 : Int64) pp)), .second, .unset, .unset, .unset] [(.long z5_l23), (.long cap), (.long (f9 (1 : Int64) pp))])) _
        refine XS.lsub X13.here hx rfl (hb hby at_164) rfl ?_
        show Steps p.tables e below (T13.setTop (mkF m 165 #[.val (.int p0), .val (.int p1), .val (.long q2), .second, .val (.long q3), .second, .val (.long q4), .second, .val (.int p5), .val (.long lim), .second, .val (.long per), .second, .val (.long bur), .second, .val (.ref b1), .val (.long cap), .second, .val (.long pt), .second, .val (.long mm), .second, .val (.int (p5 &&& (3 : Int32))), .val (.long z5_l23), .second, .val (.long pp), .second, .val (.long (f9 (1 : Int64) pp)), .second, .unset, .unset, .unset] [(.long (cap - z5_l23)), (.long (f9 (1 : Int64) pp))])) _
        refine XS.lload X13.here hx rfl (hb hby at_165) rfl  ?_
        show Steps p.tables e below (T13.setTop (mkF m 167 #[.val (.int p0), .val (.int p1), .val (.long q2), .second, .val (.long q3), .second, .val (.long q4), .second, .val (.int p5), .val (.long lim), .second, .val (.long per), .second, .val (.long bur), .second, .val (.ref b1), .val (.long cap), .second, .val (.long pt), .second, .val (.long mm), .second, .val (.int (p5 &&& (3 : Int32))), .val (.long z5_l23), .second, .val (.long pp), .second, .val (.long (f9 (1 : Int64) pp)), .second, .unset, .unset, .unset] [(.long pt), (.long (cap - z5_l23)), (.long (f9 (1 : Int64) pp))])) _
        refine XS.ldiv X13.here hx rfl (hb hby at_167) rfl hpt0 ?_
        show Steps p.tables e below (T13.setTop (mkF m 168 #[.val (.int p0), .val (.int p1), .val (.long q2), .second, .val (.long q3), .second, .val (.long q4), .second, .val (.int p5), .val (.long lim), .second, .val (.long per), .second, .val (.long bur), .second, .val (.ref b1), .val (.long cap), .second, .val (.long pt), .second, .val (.long mm), .second, .val (.int (p5 &&& (3 : Int32))), .val (.long z5_l23), .second, .val (.long pp), .second, .val (.long (f9 (1 : Int64) pp)), .second, .unset, .unset, .unset] [(.long ((cap - z5_l23) / pt)), (.long (f9 (1 : Int64) pp))])) _
        refine XS.lcmp X13.here hx rfl (hb hby at_168) rfl ?_
        show Steps p.tables e below (T13.setTop (mkF m 169 #[.val (.int p0), .val (.int p1), .val (.long q2), .second, .val (.long q3), .second, .val (.long q4), .second, .val (.int p5), .val (.long lim), .second, .val (.long per), .second, .val (.long bur), .second, .val (.ref b1), .val (.long cap), .second, .val (.long pt), .second, .val (.long mm), .second, .val (.int (p5 &&& (3 : Int32))), .val (.long z5_l23), .second, .val (.long pp), .second, .val (.long (f9 (1 : Int64) pp)), .second, .unset, .unset, .unset] [(.int (lcmpW (f9 (1 : Int64) pp) ((cap - z5_l23) / pt)))])) _
        have sm15 : ∀ t, Steps p.tables e below (T13.setTop (mkF m 177 #[.val (.int p0), .val (.int p1), .val (.long q2), .second, .val (.long q3), .second, .val (.long q4), .second, .val (.int p5), .val (.long lim), .second, .val (.long per), .second, .val (.long bur), .second, .val (.ref b1), .val (.long cap), .second, .val (.long pt), .second, .val (.long mm), .second, .val (.int (p5 &&& (3 : Int32))), .val (.long z5_l23), .second, .val (.long pp), .second, .val (.long (f9 (1 : Int64) pp)), .second, .unset, .unset, .unset] [(.int (if ((cap - z5_l23) / pt) < (f9 (1 : Int64) pp) then (0 : Int32) else (1 : Int32)))])) t → Steps p.tables e below (T13.setTop (mkF m 169 #[.val (.int p0), .val (.int p1), .val (.long q2), .second, .val (.long q3), .second, .val (.long q4), .second, .val (.int p5), .val (.long lim), .second, .val (.long per), .second, .val (.long bur), .second, .val (.ref b1), .val (.long cap), .second, .val (.long pt), .second, .val (.long mm), .second, .val (.int (p5 &&& (3 : Int32))), .val (.long z5_l23), .second, .val (.long pp), .second, .val (.long (f9 (1 : Int64) pp)), .second, .unset, .unset, .unset] [(.int (lcmpW (f9 (1 : Int64) pp) ((cap - z5_l23) / pt)))])) t := by
          intro t k
          by_cases hc169_15 : ((cap - z5_l23) / pt) < (f9 (1 : Int64) pp)
          · have k2 : Steps p.tables e below (T13.setTop (mkF m 177 #[.val (.int p0), .val (.int p1), .val (.long q2), .second, .val (.long q3), .second, .val (.long q4), .second, .val (.int p5), .val (.long lim), .second, .val (.long per), .second, .val (.long bur), .second, .val (.ref b1), .val (.long cap), .second, .val (.long pt), .second, .val (.long mm), .second, .val (.int (p5 &&& (3 : Int32))), .val (.long z5_l23), .second, .val (.long pp), .second, .val (.long (f9 (1 : Int64) pp)), .second, .unset, .unset, .unset] [(.int (0 : Int32))])) t := by simpa only [if_pos hc169_15] using k
            show Steps p.tables e below (T13.setTop (mkF m 169 #[.val (.int p0), .val (.int p1), .val (.long q2), .second, .val (.long q3), .second, .val (.long q4), .second, .val (.int p5), .val (.long lim), .second, .val (.long per), .second, .val (.long bur), .second, .val (.ref b1), .val (.long cap), .second, .val (.long pt), .second, .val (.long mm), .second, .val (.int (p5 &&& (3 : Int32))), .val (.long z5_l23), .second, .val (.long pp), .second, .val (.long (f9 (1 : Int64) pp)), .second, .unset, .unset, .unset] [(.int (lcmpW (f9 (1 : Int64) pp) ((cap - z5_l23) / pt)))])) _
            refine XS.ifYes X13.here hx rfl (pc0 := 169) (pc' := 176) rfl (hb hby at_169) rfl ((if0 _ _).trans (tlt ((lw_gt (f9 (1 : Int64) pp) ((cap - z5_l23) / pt)).mpr hc169_15)).2.2.1) (by decide) (by decide) ?_
            show Steps p.tables e below (T13.setTop (mkF m 176 #[.val (.int p0), .val (.int p1), .val (.long q2), .second, .val (.long q3), .second, .val (.long q4), .second, .val (.int p5), .val (.long lim), .second, .val (.long per), .second, .val (.long bur), .second, .val (.ref b1), .val (.long cap), .second, .val (.long pt), .second, .val (.long mm), .second, .val (.int (p5 &&& (3 : Int32))), .val (.long z5_l23), .second, .val (.long pp), .second, .val (.long (f9 (1 : Int64) pp)), .second, .unset, .unset, .unset] [])) _
            refine XS.iconst X13.here hx rfl (hb hby at_176) ?_
            exact k2
          · have k2 : Steps p.tables e below (T13.setTop (mkF m 177 #[.val (.int p0), .val (.int p1), .val (.long q2), .second, .val (.long q3), .second, .val (.long q4), .second, .val (.int p5), .val (.long lim), .second, .val (.long per), .second, .val (.long bur), .second, .val (.ref b1), .val (.long cap), .second, .val (.long pt), .second, .val (.long mm), .second, .val (.int (p5 &&& (3 : Int32))), .val (.long z5_l23), .second, .val (.long pp), .second, .val (.long (f9 (1 : Int64) pp)), .second, .unset, .unset, .unset] [(.int (1 : Int32))])) t := by simpa only [if_neg hc169_15] using k
            show Steps p.tables e below (T13.setTop (mkF m 169 #[.val (.int p0), .val (.int p1), .val (.long q2), .second, .val (.long q3), .second, .val (.long q4), .second, .val (.int p5), .val (.long lim), .second, .val (.long per), .second, .val (.long bur), .second, .val (.ref b1), .val (.long cap), .second, .val (.long pt), .second, .val (.long mm), .second, .val (.int (p5 &&& (3 : Int32))), .val (.long z5_l23), .second, .val (.long pp), .second, .val (.long (f9 (1 : Int64) pp)), .second, .unset, .unset, .unset] [(.int (lcmpW (f9 (1 : Int64) pp) ((cap - z5_l23) / pt)))])) _
            refine XS.ifNo X13.here hx rfl (hb hby at_169) rfl ((if0 _ _).trans (flt (mt (lw_gt (f9 (1 : Int64) pp) ((cap - z5_l23) / pt)).mp hc169_15)).2.2.1) ?_
            show Steps p.tables e below (T13.setTop (mkF m 172 #[.val (.int p0), .val (.int p1), .val (.long q2), .second, .val (.long q3), .second, .val (.long q4), .second, .val (.int p5), .val (.long lim), .second, .val (.long per), .second, .val (.long bur), .second, .val (.ref b1), .val (.long cap), .second, .val (.long pt), .second, .val (.long mm), .second, .val (.int (p5 &&& (3 : Int32))), .val (.long z5_l23), .second, .val (.long pp), .second, .val (.long (f9 (1 : Int64) pp)), .second, .unset, .unset, .unset] [])) _
            refine XS.iconst X13.here hx rfl (hb hby at_172) ?_
            show Steps p.tables e below (T13.setTop (mkF m 173 #[.val (.int p0), .val (.int p1), .val (.long q2), .second, .val (.long q3), .second, .val (.long q4), .second, .val (.int p5), .val (.long lim), .second, .val (.long per), .second, .val (.long bur), .second, .val (.ref b1), .val (.long cap), .second, .val (.long pt), .second, .val (.long mm), .second, .val (.int (p5 &&& (3 : Int32))), .val (.long z5_l23), .second, .val (.long pp), .second, .val (.long (f9 (1 : Int64) pp)), .second, .unset, .unset, .unset] [(.int (1 : Int32))])) _
            refine XS.goto X13.here hx rfl (pc0 := 173) (pc' := 177) rfl (hb hby at_173) (by decide) (by decide) ?_
            exact k2
        refine sm15 _ ?_
        exact k2
    refine Goes.go sm14 ?_
    show Goes p e below s _ _ _ (T13.setTop (mkF m 177 #[.val (.int p0), .val (.int p1), .val (.long q2), .second, .val (.long q3), .second, .val (.long q4), .second, .val (.int p5), .val (.long lim), .second, .val (.long per), .second, .val (.long bur), .second, .val (.ref b1), .val (.long cap), .second, .val (.long pt), .second, .val (.long mm), .second, .val (.int (p5 &&& (3 : Int32))), .val (.long z5_l23), .second, .val (.long pp), .second, .val (.long (f9 (1 : Int64) pp)), .second, .unset, .unset, .unset] [(.int z14_s0)]))
    refine Goes.go (fun _ k => XS.istore X13.here hx rfl (hb hby at_177) rfl (l' := #[.val (.int p0), .val (.int p1), .val (.long q2), .second, .val (.long q3), .second, .val (.long q4), .second, .val (.int p5), .val (.long lim), .second, .val (.long per), .second, .val (.long bur), .second, .val (.ref b1), .val (.long cap), .second, .val (.long pt), .second, .val (.long mm), .second, .val (.int (p5 &&& (3 : Int32))), .val (.long z5_l23), .second, .val (.long pp), .second, .val (.long (f9 (1 : Int64) pp)), .second, .val (.int z14_s0), .unset, .unset]) rfl k) ?_
    show Goes p e below s _ _ _ (T13.setTop (mkF m 179 #[.val (.int p0), .val (.int p1), .val (.long q2), .second, .val (.long q3), .second, .val (.long q4), .second, .val (.int p5), .val (.long lim), .second, .val (.long per), .second, .val (.long bur), .second, .val (.ref b1), .val (.long cap), .second, .val (.long pt), .second, .val (.long mm), .second, .val (.int (p5 &&& (3 : Int32))), .val (.long z5_l23), .second, .val (.long pp), .second, .val (.long (f9 (1 : Int64) pp)), .second, .val (.int z14_s0), .unset, .unset] []))
    refine Goes.go (fun _ k => X13.ldc2Long hx hown (mvT hZ (hw _ (List.mem_of_getElem? (i := 45) rfl))) (g := (mkF m 179 #[.val (.int p0), .val (.int p1), .val (.long q2), .second, .val (.long q3), .second, .val (.long q4), .second, .val (.int p5), .val (.long lim), .second, .val (.long per), .second, .val (.long bur), .second, .val (.ref b1), .val (.long cap), .second, .val (.long pt), .second, .val (.long mm), .second, .val (.int (p5 &&& (3 : Int32))), .val (.long z5_l23), .second, .val (.long pp), .second, .val (.long (f9 (1 : Int64) pp)), .second, .val (.int z14_s0), .unset, .unset] [])) rfl (hb hby at_179) _ k) ?_
    show Goes p e below s _ _ _ (T13.setTop (mkF m 182 #[.val (.int p0), .val (.int p1), .val (.long q2), .second, .val (.long q3), .second, .val (.long q4), .second, .val (.int p5), .val (.long lim), .second, .val (.long per), .second, .val (.long bur), .second, .val (.ref b1), .val (.long cap), .second, .val (.long pt), .second, .val (.long mm), .second, .val (.int (p5 &&& (3 : Int32))), .val (.long z5_l23), .second, .val (.long pp), .second, .val (.long (f9 (1 : Int64) pp)), .second, .val (.int z14_s0), .unset, .unset] [(.long (-1 : Int64))]))
    refine Goes.go (fun _ k => XS.lstore X13.here hx rfl (hb hby at_182) rfl (l' := #[.val (.int p0), .val (.int p1), .val (.long q2), .second, .val (.long q3), .second, .val (.long q4), .second, .val (.int p5), .val (.long lim), .second, .val (.long per), .second, .val (.long bur), .second, .val (.ref b1), .val (.long cap), .second, .val (.long pt), .second, .val (.long mm), .second, .val (.int (p5 &&& (3 : Int32))), .val (.long z5_l23), .second, .val (.long pp), .second, .val (.long (f9 (1 : Int64) pp)), .second, .val (.int z14_s0), .val (.long (-1 : Int64)), .second]) rfl k) ?_
    show Goes p e below s _ _ _ (T13.setTop (mkF m 184 #[.val (.int p0), .val (.int p1), .val (.long q2), .second, .val (.long q3), .second, .val (.long q4), .second, .val (.int p5), .val (.long lim), .second, .val (.long per), .second, .val (.long bur), .second, .val (.ref b1), .val (.long cap), .second, .val (.long pt), .second, .val (.long mm), .second, .val (.int (p5 &&& (3 : Int32))), .val (.long z5_l23), .second, .val (.long pp), .second, .val (.long (f9 (1 : Int64) pp)), .second, .val (.int z14_s0), .val (.long (-1 : Int64)), .second] []))
    refine Goes.go (fun _ k => XS.iload X13.here hx rfl (hb hby at_184) rfl  k) ?_
    show Goes p e below s _ _ _ (T13.setTop (mkF m 186 #[.val (.int p0), .val (.int p1), .val (.long q2), .second, .val (.long q3), .second, .val (.long q4), .second, .val (.int p5), .val (.long lim), .second, .val (.long per), .second, .val (.long bur), .second, .val (.ref b1), .val (.long cap), .second, .val (.long pt), .second, .val (.long mm), .second, .val (.int (p5 &&& (3 : Int32))), .val (.long z5_l23), .second, .val (.long pp), .second, .val (.long (f9 (1 : Int64) pp)), .second, .val (.int z14_s0), .val (.long (-1 : Int64)), .second] [(.int z14_s0)]))
    obtain ⟨z16_l30, hz16_l30⟩ : ∃ z : Int64, z = if z14_s0 = (0 : Int32) then (-1 : Int64) else (z5_l23 + ((f9 (1 : Int64) pp) * pt)) := ⟨_, rfl⟩
    have sm16 : ∀ t, Steps p.tables e below (T13.setTop (mkF m 199 #[.val (.int p0), .val (.int p1), .val (.long q2), .second, .val (.long q3), .second, .val (.long q4), .second, .val (.int p5), .val (.long lim), .second, .val (.long per), .second, .val (.long bur), .second, .val (.ref b1), .val (.long cap), .second, .val (.long pt), .second, .val (.long mm), .second, .val (.int (p5 &&& (3 : Int32))), .val (.long z5_l23), .second, .val (.long pp), .second, .val (.long (f9 (1 : Int64) pp)), .second, .val (.int z14_s0), .val (.long z16_l30), .second] [])) t → Steps p.tables e below (T13.setTop (mkF m 186 #[.val (.int p0), .val (.int p1), .val (.long q2), .second, .val (.long q3), .second, .val (.long q4), .second, .val (.int p5), .val (.long lim), .second, .val (.long per), .second, .val (.long bur), .second, .val (.ref b1), .val (.long cap), .second, .val (.long pt), .second, .val (.long mm), .second, .val (.int (p5 &&& (3 : Int32))), .val (.long z5_l23), .second, .val (.long pp), .second, .val (.long (f9 (1 : Int64) pp)), .second, .val (.int z14_s0), .val (.long (-1 : Int64)), .second] [(.int z14_s0)])) t := by
      intro t k
      by_cases hc186_16 : z14_s0 = (0 : Int32)
      · have k2 : Steps p.tables e below (T13.setTop (mkF m 199 #[.val (.int p0), .val (.int p1), .val (.long q2), .second, .val (.long q3), .second, .val (.long q4), .second, .val (.int p5), .val (.long lim), .second, .val (.long per), .second, .val (.long bur), .second, .val (.ref b1), .val (.long cap), .second, .val (.long pt), .second, .val (.long mm), .second, .val (.int (p5 &&& (3 : Int32))), .val (.long z5_l23), .second, .val (.long pp), .second, .val (.long (f9 (1 : Int64) pp)), .second, .val (.int z14_s0), .val (.long (-1 : Int64)), .second] [])) t := by simpa only [hz16_l30, if_pos hc186_16] using k
        show Steps p.tables e below (T13.setTop (mkF m 186 #[.val (.int p0), .val (.int p1), .val (.long q2), .second, .val (.long q3), .second, .val (.long q4), .second, .val (.int p5), .val (.long lim), .second, .val (.long per), .second, .val (.long bur), .second, .val (.ref b1), .val (.long cap), .second, .val (.long pt), .second, .val (.long mm), .second, .val (.int (p5 &&& (3 : Int32))), .val (.long z5_l23), .second, .val (.long pp), .second, .val (.long (f9 (1 : Int64) pp)), .second, .val (.int z14_s0), .val (.long (-1 : Int64)), .second] [(.int z14_s0)])) _
        refine XS.ifYes X13.here hx rfl (pc0 := 186) (pc' := 199) rfl (hb hby at_186) rfl ((if0 _ _).trans (teq hc186_16).1) (by decide) (by decide) ?_
        exact k2
      · have k2 : Steps p.tables e below (T13.setTop (mkF m 199 #[.val (.int p0), .val (.int p1), .val (.long q2), .second, .val (.long q3), .second, .val (.long q4), .second, .val (.int p5), .val (.long lim), .second, .val (.long per), .second, .val (.long bur), .second, .val (.ref b1), .val (.long cap), .second, .val (.long pt), .second, .val (.long mm), .second, .val (.int (p5 &&& (3 : Int32))), .val (.long z5_l23), .second, .val (.long pp), .second, .val (.long (f9 (1 : Int64) pp)), .second, .val (.int z14_s0), .val (.long (z5_l23 + ((f9 (1 : Int64) pp) * pt))), .second] [])) t := by simpa only [hz16_l30, if_neg hc186_16] using k
        show Steps p.tables e below (T13.setTop (mkF m 186 #[.val (.int p0), .val (.int p1), .val (.long q2), .second, .val (.long q3), .second, .val (.long q4), .second, .val (.int p5), .val (.long lim), .second, .val (.long per), .second, .val (.long bur), .second, .val (.ref b1), .val (.long cap), .second, .val (.long pt), .second, .val (.long mm), .second, .val (.int (p5 &&& (3 : Int32))), .val (.long z5_l23), .second, .val (.long pp), .second, .val (.long (f9 (1 : Int64) pp)), .second, .val (.int z14_s0), .val (.long (-1 : Int64)), .second] [(.int z14_s0)])) _
        refine XS.ifNo X13.here hx rfl (hb hby at_186) rfl ((if0 _ _).trans (feq hc186_16).1) ?_
        show Steps p.tables e below (T13.setTop (mkF m 189 #[.val (.int p0), .val (.int p1), .val (.long q2), .second, .val (.long q3), .second, .val (.long q4), .second, .val (.int p5), .val (.long lim), .second, .val (.long per), .second, .val (.long bur), .second, .val (.ref b1), .val (.long cap), .second, .val (.long pt), .second, .val (.long mm), .second, .val (.int (p5 &&& (3 : Int32))), .val (.long z5_l23), .second, .val (.long pp), .second, .val (.long (f9 (1 : Int64) pp)), .second, .val (.int z14_s0), .val (.long (-1 : Int64)), .second] [])) _
        refine XS.lload X13.here hx rfl (hb hby at_189) rfl  ?_
        show Steps p.tables e below (T13.setTop (mkF m 191 #[.val (.int p0), .val (.int p1), .val (.long q2), .second, .val (.long q3), .second, .val (.long q4), .second, .val (.int p5), .val (.long lim), .second, .val (.long per), .second, .val (.long bur), .second, .val (.ref b1), .val (.long cap), .second, .val (.long pt), .second, .val (.long mm), .second, .val (.int (p5 &&& (3 : Int32))), .val (.long z5_l23), .second, .val (.long pp), .second, .val (.long (f9 (1 : Int64) pp)), .second, .val (.int z14_s0), .val (.long (-1 : Int64)), .second] [(.long z5_l23)])) _
        refine XS.lload X13.here hx rfl (hb hby at_191) rfl  ?_
        show Steps p.tables e below (T13.setTop (mkF m 193 #[.val (.int p0), .val (.int p1), .val (.long q2), .second, .val (.long q3), .second, .val (.long q4), .second, .val (.int p5), .val (.long lim), .second, .val (.long per), .second, .val (.long bur), .second, .val (.ref b1), .val (.long cap), .second, .val (.long pt), .second, .val (.long mm), .second, .val (.int (p5 &&& (3 : Int32))), .val (.long z5_l23), .second, .val (.long pp), .second, .val (.long (f9 (1 : Int64) pp)), .second, .val (.int z14_s0), .val (.long (-1 : Int64)), .second] [(.long (f9 (1 : Int64) pp)), (.long z5_l23)])) _
        refine XS.lload X13.here hx rfl (hb hby at_193) rfl  ?_
        show Steps p.tables e below (T13.setTop (mkF m 195 #[.val (.int p0), .val (.int p1), .val (.long q2), .second, .val (.long q3), .second, .val (.long q4), .second, .val (.int p5), .val (.long lim), .second, .val (.long per), .second, .val (.long bur), .second, .val (.ref b1), .val (.long cap), .second, .val (.long pt), .second, .val (.long mm), .second, .val (.int (p5 &&& (3 : Int32))), .val (.long z5_l23), .second, .val (.long pp), .second, .val (.long (f9 (1 : Int64) pp)), .second, .val (.int z14_s0), .val (.long (-1 : Int64)), .second] [(.long pt), (.long (f9 (1 : Int64) pp)), (.long z5_l23)])) _
        refine XS.lmul X13.here hx rfl (hb hby at_195) rfl ?_
        show Steps p.tables e below (T13.setTop (mkF m 196 #[.val (.int p0), .val (.int p1), .val (.long q2), .second, .val (.long q3), .second, .val (.long q4), .second, .val (.int p5), .val (.long lim), .second, .val (.long per), .second, .val (.long bur), .second, .val (.ref b1), .val (.long cap), .second, .val (.long pt), .second, .val (.long mm), .second, .val (.int (p5 &&& (3 : Int32))), .val (.long z5_l23), .second, .val (.long pp), .second, .val (.long (f9 (1 : Int64) pp)), .second, .val (.int z14_s0), .val (.long (-1 : Int64)), .second] [(.long ((f9 (1 : Int64) pp) * pt)), (.long z5_l23)])) _
        refine XS.ladd X13.here hx rfl (hb hby at_196) rfl ?_
        show Steps p.tables e below (T13.setTop (mkF m 197 #[.val (.int p0), .val (.int p1), .val (.long q2), .second, .val (.long q3), .second, .val (.long q4), .second, .val (.int p5), .val (.long lim), .second, .val (.long per), .second, .val (.long bur), .second, .val (.ref b1), .val (.long cap), .second, .val (.long pt), .second, .val (.long mm), .second, .val (.int (p5 &&& (3 : Int32))), .val (.long z5_l23), .second, .val (.long pp), .second, .val (.long (f9 (1 : Int64) pp)), .second, .val (.int z14_s0), .val (.long (-1 : Int64)), .second] [(.long (z5_l23 + ((f9 (1 : Int64) pp) * pt)))])) _
        refine XS.lstore X13.here hx rfl (hb hby at_197) rfl (l' := #[.val (.int p0), .val (.int p1), .val (.long q2), .second, .val (.long q3), .second, .val (.long q4), .second, .val (.int p5), .val (.long lim), .second, .val (.long per), .second, .val (.long bur), .second, .val (.ref b1), .val (.long cap), .second, .val (.long pt), .second, .val (.long mm), .second, .val (.int (p5 &&& (3 : Int32))), .val (.long z5_l23), .second, .val (.long pp), .second, .val (.long (f9 (1 : Int64) pp)), .second, .val (.int z14_s0), .val (.long (z5_l23 + ((f9 (1 : Int64) pp) * pt))), .second]) rfl ?_
        exact k2
    refine Goes.go sm16 ?_
    show Goes p e below s _ _ _ (T13.setTop (mkF m 199 #[.val (.int p0), .val (.int p1), .val (.long q2), .second, .val (.long q3), .second, .val (.long q4), .second, .val (.int p5), .val (.long lim), .second, .val (.long per), .second, .val (.long bur), .second, .val (.ref b1), .val (.long cap), .second, .val (.long pt), .second, .val (.long mm), .second, .val (.int (p5 &&& (3 : Int32))), .val (.long z5_l23), .second, .val (.long pp), .second, .val (.long (f9 (1 : Int64) pp)), .second, .val (.int z14_s0), .val (.long z16_l30), .second] []))
    refine Goes.go (fun _ k => XS.aload X13.here hx rfl (hb hby at_199) rfl rfl  k) ?_
    show Goes p e below s _ _ _ (T13.setTop (mkF m 201 #[.val (.int p0), .val (.int p1), .val (.long q2), .second, .val (.long q3), .second, .val (.long q4), .second, .val (.int p5), .val (.long lim), .second, .val (.long per), .second, .val (.long bur), .second, .val (.ref b1), .val (.long cap), .second, .val (.long pt), .second, .val (.long mm), .second, .val (.int (p5 &&& (3 : Int32))), .val (.long z5_l23), .second, .val (.long pp), .second, .val (.long (f9 (1 : Int64) pp)), .second, .val (.int z14_s0), .val (.long z16_l30), .second] [(.ref b1)]))
    refine Goes.go (fun _ k => XS.lload X13.here hx rfl (hb hby at_201) rfl  k) ?_
    show Goes p e below s _ _ _ (T13.setTop (mkF m 203 #[.val (.int p0), .val (.int p1), .val (.long q2), .second, .val (.long q3), .second, .val (.long q4), .second, .val (.int p5), .val (.long lim), .second, .val (.long per), .second, .val (.long bur), .second, .val (.ref b1), .val (.long cap), .second, .val (.long pt), .second, .val (.long mm), .second, .val (.int (p5 &&& (3 : Int32))), .val (.long z5_l23), .second, .val (.long pp), .second, .val (.long (f9 (1 : Int64) pp)), .second, .val (.int z14_s0), .val (.long z16_l30), .second] [(.long z5_l23), (.ref b1)]))
    refine Goes.go (fun _ k => XS.lload X13.here hx rfl (hb hby at_203) rfl  k) ?_
    show Goes p e below s _ _ _ (T13.setTop (mkF m 205 #[.val (.int p0), .val (.int p1), .val (.long q2), .second, .val (.long q3), .second, .val (.long q4), .second, .val (.int p5), .val (.long lim), .second, .val (.long per), .second, .val (.long bur), .second, .val (.ref b1), .val (.long cap), .second, .val (.long pt), .second, .val (.long mm), .second, .val (.int (p5 &&& (3 : Int32))), .val (.long z5_l23), .second, .val (.long pp), .second, .val (.long (f9 (1 : Int64) pp)), .second, .val (.int z14_s0), .val (.long z16_l30), .second] [(.long (f9 (1 : Int64) pp)), (.long z5_l23), (.ref b1)]))
    obtain ⟨cq17, kq17, q17a, q17b, q17c⟩ := isOf hZ e13 G2_0
    obtain ⟨_, _, ⟨T17, L17, k17, n17⟩, -, X17, ⟨Lc17, hQ17, l17, y17, z17⟩, st17⟩ := X13.virtualBack hx (y := (⟨"com/example/danaid/danaid/TokenBucketUnits", "missingAfterTaking", "(JJ)J"⟩ : MethodName)) (z := (⟨"com/example/danaid/danaid/TokenBucketUnits", "missingAfterTaking", "(JJ)J"⟩ : MethodName)) hown (mvT hZ (hw _ (List.mem_of_getElem? (i := 46) rfl))) (mvT hZ (hw _ (List.mem_of_getElem? (i := 47) rfl))) (notFace_of_selects (args := #[]) (mvT hZ (hw _ (List.mem_of_getElem? (i := 49) rfl)))) (mvT hZ (hw _ (List.mem_of_getElem? (i := 49) rfl))) (mvT hZ (hw _ (List.mem_of_getElem? (i := 48) rfl))) (by decide) (backOf (W := 0) (rm8 l Z a0 hw [] b1 z5_l23 (f9 (1 : Int64) pp) bur (bur * (per / (own_g lim per))) (per / (own_g lim per)) h2 n0 Z2 G2_3 G2_6 G2_4) hZ (hw _ (List.mem_of_getElem? (i := 50) rfl)) (hw _ (List.mem_of_getElem? (i := 4) rfl)) (by decide) (by decide)) q17a q17c (g := (mkF m 205 #[.val (.int p0), .val (.int p1), .val (.long q2), .second, .val (.long q3), .second, .val (.long q4), .second, .val (.int p5), .val (.long lim), .second, .val (.long per), .second, .val (.long bur), .second, .val (.ref b1), .val (.long cap), .second, .val (.long pt), .second, .val (.long mm), .second, .val (.int (p5 &&& (3 : Int32))), .val (.long z5_l23), .second, .val (.long pp), .second, .val (.long (f9 (1 : Int64) pp)), .second, .val (.int z14_s0), .val (.long z16_l30), .second] [(.long (f9 (1 : Int64) pp)), (.long z5_l23), (.ref b1)])) rfl (by rw [hml]; rfl) (Steps.refl _) (argsL := [(.long z5_l23), (.long (f9 (1 : Int64) pp))]) (rest := []) (lenOf pd_1 rfl) rfl (by show 2 * 0 + _ ≤ _; exact Nat.le_of_eq rfl) (hb hby at_205) (fun _ _ => ⟨rfl, e13, (by decide : 1 + 0 ≤ _), (by decide : 7 + 0 ≤ _)⟩)
    dsimp only [Pt.U, Pt.locs, Pt.cells, Pt.slots] at X17 l17 y17 z17 st17 hQ17
    subst l17 y17 z17
    obtain ⟨rfl, N17q, e17⟩ := hQ17
    have N17 := Fr.app N13 N17q
    refine Goes.tr st17 ?_
    show Goes p e below s _ _ _ (T17.setTop (mkF m 208 #[.val (.int p0), .val (.int p1), .val (.long q2), .second, .val (.long q3), .second, .val (.long q4), .second, .val (.int p5), .val (.long lim), .second, .val (.long per), .second, .val (.long bur), .second, .val (.ref b1), .val (.long cap), .second, .val (.long pt), .second, .val (.long mm), .second, .val (.int (p5 &&& (3 : Int32))), .val (.long z5_l23), .second, .val (.long pp), .second, .val (.long (f9 (1 : Int64) pp)), .second, .val (.int z14_s0), .val (.long z16_l30), .second] [(.long (f8 b1 z5_l23 (f9 (1 : Int64) pp) bur (bur * (per / (own_g lim per))) (per / (own_g lim per))))]))
    refine Goes.go (fun _ k => XS.lload X17.here hx rfl (hb hby at_208) rfl  k) ?_
    show Goes p e below s _ _ _ (T17.setTop (mkF m 210 #[.val (.int p0), .val (.int p1), .val (.long q2), .second, .val (.long q3), .second, .val (.long q4), .second, .val (.int p5), .val (.long lim), .second, .val (.long per), .second, .val (.long bur), .second, .val (.ref b1), .val (.long cap), .second, .val (.long pt), .second, .val (.long mm), .second, .val (.int (p5 &&& (3 : Int32))), .val (.long z5_l23), .second, .val (.long pp), .second, .val (.long (f9 (1 : Int64) pp)), .second, .val (.int z14_s0), .val (.long z16_l30), .second] [(.long z16_l30), (.long (f8 b1 z5_l23 (f9 (1 : Int64) pp) bur (bur * (per / (own_g lim per))) (per / (own_g lim per))))]))
    refine Goes.go (fun _ k => XS.lcmp X17.here hx rfl (hb hby at_210) rfl k) ?_
    show Goes p e below s _ _ _ (T17.setTop (mkF m 211 #[.val (.int p0), .val (.int p1), .val (.long q2), .second, .val (.long q3), .second, .val (.long q4), .second, .val (.int p5), .val (.long lim), .second, .val (.long per), .second, .val (.long bur), .second, .val (.ref b1), .val (.long cap), .second, .val (.long pt), .second, .val (.long mm), .second, .val (.int (p5 &&& (3 : Int32))), .val (.long z5_l23), .second, .val (.long pp), .second, .val (.long (f9 (1 : Int64) pp)), .second, .val (.int z14_s0), .val (.long z16_l30), .second] [(.int (lcmpW (f8 b1 z5_l23 (f9 (1 : Int64) pp) bur (bur * (per / (own_g lim per))) (per / (own_g lim per))) z16_l30))]))
    have hc211_18 : (f8 b1 z5_l23 (f9 (1 : Int64) pp) bur (bur * (per / (own_g lim per))) (per / (own_g lim per))) = z16_l30 := by have hprm : 0 < ((f9 (1 : Int64) pp)).toInt := own_p1 _; rw [hz16_l30, hz14_s0]; rw [show (per / (own_g lim per)) = pt from ept, ecap]; exact own_law _ hpt hbur hcap hmis hprm
    refine Goes.go (fun _ k => XS.ifNo X17.here hx rfl (hb hby at_211) rfl ((if0 _ _).trans (teq ((lw_eq (f8 b1 z5_l23 (f9 (1 : Int64) pp) bur (bur * (per / (own_g lim per))) (per / (own_g lim per))) z16_l30).mpr hc211_18)).2) k) ?_
    show Goes p e below s _ _ _ (T17.setTop (mkF m 214 #[.val (.int p0), .val (.int p1), .val (.long q2), .second, .val (.long q3), .second, .val (.long q4), .second, .val (.int p5), .val (.long lim), .second, .val (.long per), .second, .val (.long bur), .second, .val (.ref b1), .val (.long cap), .second, .val (.long pt), .second, .val (.long mm), .second, .val (.int (p5 &&& (3 : Int32))), .val (.long z5_l23), .second, .val (.long pp), .second, .val (.long (f9 (1 : Int64) pp)), .second, .val (.int z14_s0), .val (.long z16_l30), .second] []))
    refine Goes.go (fun _ k => XS.iconst X17.here hx rfl (hb hby at_214) k) ?_
    show Goes p e below s _ _ _ (T17.setTop (mkF m 215 #[.val (.int p0), .val (.int p1), .val (.long q2), .second, .val (.long q3), .second, .val (.long q4), .second, .val (.int p5), .val (.long lim), .second, .val (.long per), .second, .val (.long bur), .second, .val (.ref b1), .val (.long cap), .second, .val (.long pt), .second, .val (.long mm), .second, .val (.int (p5 &&& (3 : Int32))), .val (.long z5_l23), .second, .val (.long pp), .second, .val (.long (f9 (1 : Int64) pp)), .second, .val (.int z14_s0), .val (.long z16_l30), .second] [(.int (1 : Int32))]))
    refine Goes.go (fun _ k => XS.goto X17.here hx rfl (pc0 := 215) (pc' := 219) rfl (hb hby at_215) (by decide) (by decide) k) ?_
    show Goes p e below s _ _ _ (T17.setTop (mkF m 219 #[.val (.int p0), .val (.int p1), .val (.long q2), .second, .val (.long q3), .second, .val (.long q4), .second, .val (.int p5), .val (.long lim), .second, .val (.long per), .second, .val (.long bur), .second, .val (.ref b1), .val (.long cap), .second, .val (.long pt), .second, .val (.long mm), .second, .val (.int (p5 &&& (3 : Int32))), .val (.long z5_l23), .second, .val (.long pp), .second, .val (.long (f9 (1 : Int64) pp)), .second, .val (.int z14_s0), .val (.long z16_l30), .second] [(.int (1 : Int32))]))
    refine Goes.retN .boolean X17 hx hlk Bd.returns (by simp) (hb hby at_219) ?_ (by decide) (by decide)
    exact ⟨rfl, N17⟩
set_option maxRecDepth 65536 in
set_option maxHeartbeats 40000000 in
theorem comes_1 {Post : Tables → Env → Array Value → State → Outcome → State → Prop} (hpost : ∀ tb e args s v u, (limb_1_1.after args s (.returned v) u = true ∧ limb_1_2.after args s (.returned v) u = true ∧ True) → FrameEnd s (.returned v) u (Jvm.fieldLocs frame_1_writes args s ++ Jvm.arrayLocs frame_1_arrays args s ++ Jvm.staticLocs frame_1_statics s) 16 128 → Post tb e args s (.returned v) u) :
    ArmFor flags0 classFile x code maxLocals ret World_1 tables_1 room_1 Calls_1 rest_1 Pre_1 Post := by
  intro l hfl _ _ p e ha hc hk s m args below hf hA hF happ hP
  obtain ⟨hcalls, hrest, hpre⟩ := hP
  obtain ⟨-, -, -, hnamed, -, -, -, hat⟩ := (Spec.applies_iff hf).mp happ
  obtain ⟨hg, hn⟩ := and_e (Cond.before_iff.mp (show (Jvm.Cond.and given_1 narrow_1).before args s = true from hpre))
  obtain ⟨gc, gr0⟩ := and_e hg
  obtain ⟨w0, w1, w2, w3, w4, w5, rfl⟩ : ∃ w0 w1 w2 w3 w4 w5 : Value, args = #[w0, w1, w2, w3, w4, w5] := by
    have hs : args.size = 6 := by simpa [Cond.value, given_1] using gc
    obtain ⟨L⟩ := args
    match L, hs with
    | [w0, w1, w2, w3, w4, w5], _ => exact ⟨w0, w1, w2, w3, w4, w5, rfl⟩
  have hw := fun d (hd : d ∈ tables_1) => atoms_spec (ws := Jvm.Cond.code x code maxLocals ret :: tables_1) hat d (List.mem_cons_of_mem _ hd)
  have hfit : Fit s := fun {y c} hc i hi => by
    obtain ⟨ha, rfl⟩ := Array.getElem?_eq_some_iff.mp hc
    have q := List.all_eq_true.mp ((Array.all_eq_true_iff_forall_mem.mp hF) _ (Array.getElem_mem ha)) i (List.mem_range.mpr hi)
    simpa [Array.getElem?_eq_getElem hi] using q
  obtain ⟨ga0, gr1⟩ := and_e gr0
  obtain ⟨i0, ei0⟩ := is_v ga0
  obtain rfl : w0 = (.int i0) := Option.some.inj ei0
  obtain ⟨ga1, gr2⟩ := and_e gr1
  obtain ⟨i1, ei1⟩ := is_v ga1
  obtain rfl : w1 = (.int i1) := Option.some.inj ei1
  obtain ⟨ga2, gr3⟩ := and_e gr2
  obtain ⟨i2, ei2⟩ := isL_v ga2
  obtain rfl : w2 = (.long i2) := Option.some.inj ei2
  obtain ⟨ga3, gr4⟩ := and_e gr3
  obtain ⟨i3, ei3⟩ := isL_v ga3
  obtain rfl : w3 = (.long i3) := Option.some.inj ei3
  obtain ⟨ga4, gr5⟩ := and_e gr4
  obtain ⟨i4, ei4⟩ := isL_v ga4
  obtain rfl : w4 = (.long i4) := Option.some.inj ei4
  obtain ⟨i5, ei5⟩ := is_v gr5
  obtain rfl : w5 = (.int i5) := Option.some.inj ei5
  obtain ⟨n, o, h1, h2, h3, _, L, rfl, ⟨rfl, N⟩, hq⟩ := rm0 l s _ hw tables_1 i0 i1 i2 i3 i4 i5 s.heap s.heap.size (Nat.le_refl _) p e ha hc hk s m _ below hf ((Spec.applies_iff_loose hf).mp happ).1 ⟨rfl, State.Warmed39.refl s, rfl⟩ trivial
  refine ⟨n, _, h1, h2, h3, hpost _ _ _ _ _ _ ⟨Cond.after_iff.mpr rfl, Cond.after_iff.mpr (eq_i res_at (Term.int_eval (1)) rfl), trivial⟩ ⟨hq.1, hq.2.1, (hq.2.2.sift fun y hy => Or.inr (N y hy)).mono (by decide) (by decide)⟩⟩
theorem main_1_1 : Claimed_1_1 := comes_1 fun _ _ _ _ _ _ h hF => ⟨h.1, hF⟩
theorem main_1_2 : Claimed_1_2 := comes_1 fun _ _ _ _ _ _ h hF => ⟨h.2.1, hF⟩
end Jvm.Pilot.@@N@@
namespace Jvm.Pilot.@@N@@
open Jvm Jvm.ClassFile Sem Op Lib Jvm.Free Jvm.Stand Jvm.Pilot.@@N@@.Jvm.D
/-! MADE BY PROGRAM (witnessworld.py) out of the Statement's table words and the real class files: 10 classes; the members and pool entries that the words name. The judged class is class 1, her method 1. -/
namespace start1
open Jvm.ClassFile
def u (s : String) : CpInfo := .utf8 (stringToUtf16 s)
/-- a pool by its gaps: so many unusable entries, then the entry; so many at the end -/
def gap : Nat → List CpInfo → List CpInfo
  | 0, r => r
  | n + 1, r => .unusable :: gap n r
def poolList (es : List (Nat × CpInfo)) (last : Nat) : List CpInfo := es.foldr (fun e r => gap e.1 (e.2 :: r)) (gap last [])
def pool (es : List (Nat × CpInfo)) (last : Nat) : Array CpInfo := ⟨poolList es last⟩
def fileOf (pool : Array CpInfo) (this : Nat) (attrs : Array Attribute := #[]) (ms : Array MethodInfo := #[]) (fl : Nat := 33) (sup : Nat := 0) (ifs : Array Nat := #[]) (fds : Array FieldInfo := #[]) : ClassFile where
  minorVersion := 0
  majorVersion := 65
  constantPool := pool
  accessFlags := fl
  thisClass := this
  superClass := sup
  interfaces := ifs
  fields := fds
  methods := ms
  attributes := attrs
def plain (name : String) (sup : Option ClassId) : Class where
  name := name
  kind := .ordinary
  loader := none
  accessFlags := 33
  super := sup
  interfaces := #[]
  cf := none
  fields := #[]
  methods := #[]
  instanceTypes := #[]
  staticTypes := #[]
  resolved := #[]
  callSites := []
  init := .initialized
  statics := none
  mirror := none

def pool0 : Array CpInfo := pool [(5, u "<init>"), (0, u "()V"), (1, .class_ 10), (1, u "java/lang/Object")] 113

def k0c0 : Code := { maxStack := 0, maxLocals := 1, code := object_method_1_code, exceptionTable := #[], attributes := #[] }
def k0m0 : Method := { name := "<init>", desc := "()V", sig := { parameters := [], returnType := none }, accessFlags := 1, code := some k0c0 }
/-- java/lang/Object -/
def k0 : Class := { plain "java/lang/Object" none with
  accessFlags := 33
  interfaces := #[]
  cf := some (fileOf pool0 8 #[] #[{ accessFlags := 1, nameIndex := 5, descriptorIndex := 6, attributes := #[] }] 33 0 #[] #[])
  fields := #[]
  methods := #[k0m0]
  instanceTypes := #[]
  staticTypes := #[]
  resolved := Array.replicate 124 none
  statics := none }

def pool1 : Array CpInfo := pool [(2, .class_ 4), (1, u "java/lang/Object"), (0, u "<init>"), (0, u "()V"), (0, .integer 2147483647), (2, .long 9223372036854775807), (1, .class_ 13), (0, u "com/example/danaid/danaid/TokenBucketUnits"), (0, .methodref 12 15), (0, .nameAndType 5 16), (0, u "(JJJ)V"), (0, .methodref 12 18), (0, .nameAndType 19 20), (0, u "capacity"), (0, u "()J"), (0, .methodref 12 22), (0, .nameAndType 23 20), (0, u "perToken"), (0, .methodref 25 26), (0, .class_ 27), (0, .nameAndType 28 29), (0, u "java/lang/Math"), (0, u "max"), (0, u "(JJ)J"), (0, .long 18446744073709551615), (1, .methodref 12 33), (0, .nameAndType 34 29), (0, u "missingAfterTaking"), (0, .class_ 36), (0, u "com/example/danaid/danaid/TokenBucketUnitsMissingAfterTakingPinLaw"), (2, u "law"), (0, u "(IIJJJI)Z")] 3

def k1m0 : Method := { name := "<init>", desc := "()V", sig := { parameters := [], returnType := none }, accessFlags := 1, code := none }
def k1c1 : Code := { maxStack := 8, maxLocals := 32, code := code, exceptionTable := #[], attributes := #[] }
def k1m1 : Method := { name := "law", desc := "(IIJJJI)Z", sig := { parameters := [.int, .int, .long, .long, .long, .int], returnType := some .boolean }, accessFlags := 9, code := some k1c1 }
/-- com/example/danaid/danaid/TokenBucketUnitsMissingAfterTakingPinLaw -/
def k1 : Class := { plain "com/example/danaid/danaid/TokenBucketUnitsMissingAfterTakingPinLaw" (some 0) with
  accessFlags := 49
  interfaces := #[]
  cf := some (fileOf pool1 35 #[] #[{ accessFlags := 1, nameIndex := 5, descriptorIndex := 6, attributes := #[] }, { accessFlags := 9, nameIndex := 39, descriptorIndex := 40, attributes := #[] }] 49 2 #[] #[])
  fields := #[]
  methods := #[k1m0, k1m1]
  instanceTypes := #[]
  staticTypes := #[]
  resolved := Array.replicate 44 none
  statics := none }

def pool2 : Array CpInfo := pool [(1, .methodref 2 3), (0, .class_ 4), (0, .nameAndType 5 6), (0, u "java/lang/Object"), (0, u "<init>"), (0, u "()V"), (0, .methodref 8 9), (0, .class_ 10), (0, .nameAndType 11 12), (0, u "com/example/danaid/danaid/TokenBucketUnits"), (0, u "greatestCommonDivisor"), (0, u "(JJ)J"), (0, .fieldref 8 14), (0, .nameAndType 15 16), (0, u "limit"), (0, u "J"), (0, .fieldref 8 18), (0, .nameAndType 19 16), (0, u "periodMillis"), (0, .fieldref 8 21), (0, .nameAndType 22 16), (0, u "burst"), (0, .fieldref 8 24), (0, .nameAndType 25 16), (0, u "perToken"), (0, .fieldref 8 27), (0, .nameAndType 28 16), (0, u "perMilli"), (0, .methodref 30 31), (0, .class_ 32), (0, .nameAndType 33 12), (0, u "java/lang/Math"), (0, u "multiplyExact"), (0, .fieldref 8 35), (0, .nameAndType 36 16), (0, u "capacity"), (11, .fieldref 8 49), (0, .nameAndType 50 16), (0, u "fillMillis"), (33, u "()J"), (2, .long 18446744073709551615), (16, u "(JJJ)V"), (11, u "missingAfterTaking")] 19

def k2c0 : Code := { maxStack := 8, maxLocals := 10, code := prog_14_method_1_code, exceptionTable := #[{ startPc := 43, endPc := 56, handlerPc := 59, catchType := 37 }], attributes := #[] }
def k2m0 : Method := { name := "<init>", desc := "(JJJ)V", sig := { parameters := [.long, .long, .long], returnType := none }, accessFlags := 0, code := some k2c0 }
def k2c1 : Code := { maxStack := 2, maxLocals := 1, code := prog_14_method_5_code, exceptionTable := #[], attributes := #[] }
def k2m1 : Method := { name := "perToken", desc := "()J", sig := { parameters := [], returnType := some .long }, accessFlags := 0, code := some k2c1 }
def k2c2 : Code := { maxStack := 2, maxLocals := 1, code := prog_14_method_7_code, exceptionTable := #[], attributes := #[] }
def k2m2 : Method := { name := "capacity", desc := "()J", sig := { parameters := [], returnType := some .long }, accessFlags := 0, code := some k2c2 }
def k2c3 : Code := { maxStack := 8, maxLocals := 7, code := prog_14_method_12_code, exceptionTable := #[], attributes := #[] }
def k2m3 : Method := { name := "missingAfterTaking", desc := "(JJ)J", sig := { parameters := [.long, .long], returnType := some .long }, accessFlags := 0, code := some k2c3 }
def k2c4 : Code := { maxStack := 4, maxLocals := 10, code := prog_14_method_16_code, exceptionTable := #[], attributes := #[] }
def k2m4 : Method := { name := "greatestCommonDivisor", desc := "(JJ)J", sig := { parameters := [.long, .long], returnType := some .long }, accessFlags := 10, code := some k2c4 }
/-- com/example/danaid/danaid/TokenBucketUnits -/
def k2 : Class := { plain "com/example/danaid/danaid/TokenBucketUnits" (some 0) with
  accessFlags := 32
  interfaces := #[]
  cf := some (fileOf pool2 8 #[] #[{ accessFlags := 0, nameIndex := 5, descriptorIndex := 104, attributes := #[] }, { accessFlags := 0, nameIndex := 25, descriptorIndex := 84, attributes := #[] }, { accessFlags := 0, nameIndex := 36, descriptorIndex := 84, attributes := #[] }, { accessFlags := 0, nameIndex := 116, descriptorIndex := 12, attributes := #[] }, { accessFlags := 10, nameIndex := 11, descriptorIndex := 12, attributes := #[] }] 32 2 #[] #[{ accessFlags := 18, nameIndex := 15, descriptorIndex := 16, attributes := #[] }, { accessFlags := 18, nameIndex := 19, descriptorIndex := 16, attributes := #[] }, { accessFlags := 18, nameIndex := 22, descriptorIndex := 16, attributes := #[] }, { accessFlags := 18, nameIndex := 25, descriptorIndex := 16, attributes := #[] }, { accessFlags := 18, nameIndex := 28, descriptorIndex := 16, attributes := #[] }, { accessFlags := 18, nameIndex := 36, descriptorIndex := 16, attributes := #[] }, { accessFlags := 18, nameIndex := 50, descriptorIndex := 16, attributes := #[] }])
  fields := #[{ name := "limit", type := .long, accessFlags := 18, slot := 0, constantValue := 0 }, { name := "periodMillis", type := .long, accessFlags := 18, slot := 1, constantValue := 0 }, { name := "burst", type := .long, accessFlags := 18, slot := 2, constantValue := 0 }, { name := "perToken", type := .long, accessFlags := 18, slot := 3, constantValue := 0 }, { name := "perMilli", type := .long, accessFlags := 18, slot := 4, constantValue := 0 }, { name := "capacity", type := .long, accessFlags := 18, slot := 5, constantValue := 0 }, { name := "fillMillis", type := .long, accessFlags := 18, slot := 6, constantValue := 0 }]
  methods := #[k2m0, k2m1, k2m2, k2m3, k2m4]
  instanceTypes := #[.long, .long, .long, .long, .long, .long, .long]
  staticTypes := #[]
  resolved := Array.replicate 136 none
  statics := none }

def pool3 : Array CpInfo := pool [(1, .class_ 2), (0, u "java/lang/Math"), (1, .class_ 6), (1, u "java/lang/Object"), (0, u "<init>"), (0, u "()V"), (89, .class_ 100), (1, u "java/lang/Math$RandomNumberGeneratorHolder"), (19, u "multiplyExact"), (0, u "(JJ)J"), (0, .methodref 1 123), (0, .nameAndType 124 125), (0, u "abs"), (0, u "(J)J"), (2, .long 9223372036854775808), (43, u "negativeZeroFloatBits"), (0, u "J"), (2, u "negativeZeroDoubleBits"), (21, u "max"), (46, u "$assertionsDisabled"), (0, u "Z"), (91, u "twoToTheDoubleScaleDown"), (0, u "D"), (4, u "twoToTheDoubleScaleUp"), (9, u "E"), (3, u "PI"), (2, u "TAU"), (2, u "DEGREES_TO_RADIANS"), (0, u "RADIANS_TO_DEGREES")] 94

def k3m0 : Method := { name := "<init>", desc := "()V", sig := { parameters := [], returnType := none }, accessFlags := 2, code := none }
def k3c1 : Code := { maxStack := 4, maxLocals := 10, code := jdk_29_method_30_code, exceptionTable := #[], attributes := #[] }
def k3m1 : Method := { name := "multiplyExact", desc := "(JJ)J", sig := { parameters := [.long, .long], returnType := some .long }, accessFlags := 9, code := some k3c1 }
def k3c2 : Code := { maxStack := 4, maxLocals := 2, code := jdk_29_method_61_code, exceptionTable := #[], attributes := #[] }
def k3m2 : Method := { name := "abs", desc := "(J)J", sig := { parameters := [.long], returnType := some .long }, accessFlags := 9, code := some k3c2 }
def k3c3 : Code := { maxStack := 4, maxLocals := 4, code := jdk_29_method_66_code, exceptionTable := #[], attributes := #[] }
def k3m3 : Method := { name := "max", desc := "(JJ)J", sig := { parameters := [.long, .long], returnType := some .long }, accessFlags := 9, code := some k3c3 }
/-- java/lang/Math -/
def k3 : Class := { plain "java/lang/Math" (some 0) with
  accessFlags := 49
  interfaces := #[]
  cf := some (fileOf pool3 1 #[.nestMembers #[98]] #[{ accessFlags := 2, nameIndex := 7, descriptorIndex := 8, attributes := #[] }, { accessFlags := 9, nameIndex := 120, descriptorIndex := 121, attributes := #[] }, { accessFlags := 9, nameIndex := 124, descriptorIndex := 125, attributes := #[] }, { accessFlags := 9, nameIndex := 198, descriptorIndex := 121, attributes := #[] }] 49 4 #[] #[{ accessFlags := 25, nameIndex := 354, descriptorIndex := 339, attributes := #[] }, { accessFlags := 25, nameIndex := 358, descriptorIndex := 339, attributes := #[] }, { accessFlags := 25, nameIndex := 361, descriptorIndex := 339, attributes := #[] }, { accessFlags := 26, nameIndex := 364, descriptorIndex := 339, attributes := #[] }, { accessFlags := 26, nameIndex := 365, descriptorIndex := 339, attributes := #[] }, { accessFlags := 26, nameIndex := 172, descriptorIndex := 173, attributes := #[] }, { accessFlags := 26, nameIndex := 176, descriptorIndex := 173, attributes := #[] }, { accessFlags := 8, nameIndex := 344, descriptorIndex := 339, attributes := #[] }, { accessFlags := 8, nameIndex := 338, descriptorIndex := 339, attributes := #[] }, { accessFlags := 4120, nameIndex := 245, descriptorIndex := 246, attributes := #[] }])
  fields := #[{ name := "E", type := .double, accessFlags := 25, slot := 0, constantValue := 0 }, { name := "PI", type := .double, accessFlags := 25, slot := 1, constantValue := 0 }, { name := "TAU", type := .double, accessFlags := 25, slot := 2, constantValue := 0 }, { name := "DEGREES_TO_RADIANS", type := .double, accessFlags := 26, slot := 3, constantValue := 0 }, { name := "RADIANS_TO_DEGREES", type := .double, accessFlags := 26, slot := 4, constantValue := 0 }, { name := "negativeZeroFloatBits", type := .long, accessFlags := 26, slot := 5, constantValue := 0 }, { name := "negativeZeroDoubleBits", type := .long, accessFlags := 26, slot := 6, constantValue := 0 }, { name := "twoToTheDoubleScaleUp", type := .double, accessFlags := 8, slot := 7, constantValue := 0 }, { name := "twoToTheDoubleScaleDown", type := .double, accessFlags := 8, slot := 8, constantValue := 0 }, { name := "$assertionsDisabled", type := .boolean, accessFlags := 4120, slot := 9, constantValue := 0 }]
  methods := #[k3m0, k3m1, k3m2, k3m3]
  instanceTypes := #[]
  staticTypes := #[.double, .double, .double, .double, .double, .long, .long, .double, .double, .boolean]
  resolved := Array.replicate 460 none
  statics := none }

def pool4 : Array CpInfo := pool [(1, u "java/lang/Cloneable"), (0, .class_ 1), (0, u "java/lang/Object"), (0, .class_ 3)] 3

/-- java/lang/Cloneable -/
def k4 : Class := { plain "java/lang/Cloneable" (some 0) with
  accessFlags := 1537
  interfaces := #[]
  cf := some (fileOf pool4 2 #[] #[] 1537 4 #[] #[])
  fields := #[]
  methods := #[]
  instanceTypes := #[]
  staticTypes := #[]
  resolved := Array.replicate 8 none
  statics := none }

def pool5 : Array CpInfo := pool [(1, u "java/io/Serializable"), (0, .class_ 1), (0, u "java/lang/Object"), (0, .class_ 3)] 3

/-- java/io/Serializable -/
def k5 : Class := { plain "java/io/Serializable" (some 0) with
  accessFlags := 1537
  interfaces := #[]
  cf := some (fileOf pool5 2 #[] #[] 1537 4 #[] #[])
  fields := #[]
  methods := #[]
  instanceTypes := #[]
  staticTypes := #[]
  resolved := Array.replicate 8 none
  statics := none }

/-- the primitive byte -/
def k6 : Class := { plain "byte" none with kind := .primitive 'B', accessFlags := 0x411 }
/-- [B -/
def k7 : Class := { plain "[B" (some 0) with kind := .array 6 .byte, interfaces := #[4, 5], accessFlags := 1041 }

/-- the primitive int -/
def k8 : Class := { plain "int" none with kind := .primitive 'I', accessFlags := 0x411 }
/-- [I -/
def k9 : Class := { plain "[I" (some 0) with kind := .array 8 .int, interfaces := #[4, 5], accessFlags := 1041 }

def heap : Heap := #[]
def classes : Array Class := #[k0, k1, k2, k3, k4, k5, k6, k7, k8, k9]
def interned : List (Array UInt16 × Addr) := []
def slotsUsed : Nat := 0
def theMethod : MethodId := ⟨1, 1⟩
def args0 : Array Value := #[.int 5, .int 5, .long 5, .long 5, .long 5, .int 5]
def aboutOver (below : List Frame) : State where
  vm := { classes := classes, interned := interned.toArray }
  heap := heap
  slotsUsed := slotsUsed
  threads := #[{ frames := .invoking theMethod args0 :: below }]
def below0 : List Frame := [.native { method := ⟨0, 0⟩, args := #[] }]
def about1 : State := aboutOver below0
def p0 : Program := .bare "" "" ""
def e0 : Env := launch0.env 0 0 0
theorem w_frames : about1.frames = Frame.invoking theMethod args0 :: below0 := rfl
set_option maxRecDepth 65536 in
theorem w_args : argsFit about1.vm theMethod args0 = true := by decide +kernel
set_option maxRecDepth 65536 in
theorem w_heap : heapFits about1 = true := by decide +kernel
set_option maxRecDepth 65536 in
theorem w_runnable : about1.curStatus? = some .runnable := by decide +kernel
set_option maxRecDepth 65536 in
theorem w_alone : about1.alone = true := by decide +kernel
set_option maxRecDepth 65536 in
theorem w_named : about1.methodNamed? x = some theMethod := by decide +kernel
set_option maxRecDepth 65536 in
theorem w_hears : about1.hears theMethod below0 = true := by decide +kernel
set_option maxRecDepth 65536 in
theorem w_ripe : about1.ripe theMethod args0 below0 = true := by decide +kernel
theorem w_running : about1.status = .running := rfl
set_option maxRecDepth 65536 in
theorem w_room : about1.hasRoom e0.platform room_1 = true :=
  launch0.hasRoom_least _ room_1 (by decide +kernel) (by decide +kernel) (by decide +kernel) (by decide +kernel) (by decide +kernel) (by decide +kernel)
theorem allAtoms_all (ts : List Jvm.Cond) (a : Array Jvm.Value) (st : Jvm.State) : (allAtoms ts).before a st = ts.all (fun c => c.before a st) := by
  induction ts with
  | nil => rfl
  | cons c t ih =>
    show (Jvm.Cond.and c (allAtoms t)).before a st = _
    rw [Jvm.Cond.before_and, ih, List.all_cons]
def words1 : List Jvm.Cond := Jvm.Cond.code x code maxLocals ret :: tables_1
/-- a 'code' word, met by the world's own term for the bytes: nothing is compared byte by byte -/
theorem code_word {y : MethodName} {bytes : ByteArray} {mx : Nat} {rt : Option FieldType} {a : Array Value} {s : State} {m : MethodId} {meth : Method} {c : Code} (h1 : s.methodNamed? y = some m) (h2 : s.vm.method? m = some meth) (h3 : meth.code = some c) (h4 : c.code = bytes)
    (h5 : (c.maxLocals == mx && c.exceptionTable.isEmpty && decide (c.maxStack ≤ mostOperands) && decide (meth.sig.returnType = rt) && !meth.locks && decide (parseMethodDescriptor y.desc = some meth.sig)) = true) : (Jvm.Cond.code y bytes mx rt).before a s = true := by
  simp only [Bool.and_eq_true, beq_iff_eq, Bool.not_eq_true', decide_eq_true_eq] at h5
  obtain ⟨⟨⟨⟨⟨g1, g2⟩, g3⟩, g4⟩, g5⟩, g6⟩ := h5
  simp [Cond.before, Cond.holds, Cond.value, h1, h2, h3, h4, g1, g2, g3, g4, g5, g6]
def isCode : Jvm.Cond → Bool
  | .code _ _ _ _ => true
  | _ => false
theorem all_split {L : List Jvm.Cond} {P : Jvm.Cond → Bool} (h1 : L.all (fun c => isCode c || P c) = true) (h2 : ∀ c ∈ L.filter isCode, P c = true) : L.all P = true := by
  refine List.all_eq_true.mpr fun c hc => ?_
  have h := List.all_eq_true.mp h1 c hc
  rcases Bool.eq_false_or_eq_true (isCode c) with hi | hi
  · exact h2 c (List.mem_filter.mpr ⟨hc, hi⟩)
  · simpa [hi] using h
set_option maxRecDepth 65536 in
theorem w_c0 : (Jvm.Cond.code x code maxLocals ret).before args0 about1 = true := code_word (m := ⟨1, 1⟩) (meth := k1m1) (c := k1c1) (by decide +kernel) rfl rfl rfl (by decide +kernel)
set_option maxRecDepth 65536 in
theorem w_c1 : (Jvm.Cond.code ({ cls := "java/lang/Object", name := "<init>", desc := "()V" } : Jvm.MethodName) object_method_1_code (1 : Nat) (Option.none : Option Jvm.ClassFile.FieldType)).before args0 about1 = true := code_word (m := ⟨0, 0⟩) (meth := k0m0) (c := k0c0) (by decide +kernel) rfl rfl rfl (by decide +kernel)
set_option maxRecDepth 65536 in
theorem w_c2 : (Jvm.Cond.code ({ cls := "com/example/danaid/danaid/TokenBucketUnits", name := "greatestCommonDivisor", desc := "(JJ)J" } : Jvm.MethodName) prog_14_method_16_code (10 : Nat) (Option.some Jvm.ClassFile.FieldType.long)).before args0 about1 = true := code_word (m := ⟨2, 4⟩) (meth := k2m4) (c := k2c4) (by decide +kernel) rfl rfl rfl (by decide +kernel)
set_option maxRecDepth 65536 in
theorem w_c3 : (Jvm.Cond.code ({ cls := "java/lang/Math", name := "multiplyExact", desc := "(JJ)J" } : Jvm.MethodName) jdk_29_method_30_code (10 : Nat) (Option.some Jvm.ClassFile.FieldType.long)).before args0 about1 = true := code_word (m := ⟨3, 1⟩) (meth := k3m1) (c := k3c1) (by decide +kernel) rfl rfl rfl (by decide +kernel)
set_option maxRecDepth 65536 in
theorem w_c4 : (Jvm.Cond.code ({ cls := "java/lang/Math", name := "abs", desc := "(J)J" } : Jvm.MethodName) jdk_29_method_61_code (2 : Nat) (Option.some Jvm.ClassFile.FieldType.long)).before args0 about1 = true := code_word (m := ⟨3, 2⟩) (meth := k3m2) (c := k3c2) (by decide +kernel) rfl rfl rfl (by decide +kernel)
set_option maxRecDepth 65536 in
theorem w_c5 : (Jvm.Cond.code ({ cls := "com/example/danaid/danaid/TokenBucketUnits", name := "capacity", desc := "()J" } : Jvm.MethodName) prog_14_method_7_code (1 : Nat) (Option.some Jvm.ClassFile.FieldType.long)).before args0 about1 = true := code_word (m := ⟨2, 2⟩) (meth := k2m2) (c := k2c2) (by decide +kernel) rfl rfl rfl (by decide +kernel)
set_option maxRecDepth 65536 in
theorem w_c6 : (Jvm.Cond.code ({ cls := "com/example/danaid/danaid/TokenBucketUnits", name := "perToken", desc := "()J" } : Jvm.MethodName) prog_14_method_5_code (1 : Nat) (Option.some Jvm.ClassFile.FieldType.long)).before args0 about1 = true := code_word (m := ⟨2, 1⟩) (meth := k2m1) (c := k2c1) (by decide +kernel) rfl rfl rfl (by decide +kernel)
set_option maxRecDepth 65536 in
theorem w_c7 : (Jvm.Cond.code ({ cls := "com/example/danaid/danaid/TokenBucketUnits", name := "missingAfterTaking", desc := "(JJ)J" } : Jvm.MethodName) prog_14_method_12_code (7 : Nat) (Option.some Jvm.ClassFile.FieldType.long)).before args0 about1 = true := code_word (m := ⟨2, 3⟩) (meth := k2m3) (c := k2c3) (by decide +kernel) rfl rfl rfl (by decide +kernel)
set_option maxRecDepth 65536 in
theorem w_c8 : (Jvm.Cond.code ({ cls := "java/lang/Math", name := "max", desc := "(JJ)J" } : Jvm.MethodName) jdk_29_method_66_code (4 : Nat) (Option.some Jvm.ClassFile.FieldType.long)).before args0 about1 = true := code_word (m := ⟨3, 3⟩) (meth := k3m3) (c := k3c3) (by decide +kernel) rfl rfl rfl (by decide +kernel)
def codes1 : List Jvm.Cond := [Jvm.Cond.code x code maxLocals ret, Jvm.Cond.code ({ cls := "java/lang/Object", name := "<init>", desc := "()V" } : Jvm.MethodName) object_method_1_code (1 : Nat) (Option.none : Option Jvm.ClassFile.FieldType), Jvm.Cond.code ({ cls := "com/example/danaid/danaid/TokenBucketUnits", name := "greatestCommonDivisor", desc := "(JJ)J" } : Jvm.MethodName) prog_14_method_16_code (10 : Nat) (Option.some Jvm.ClassFile.FieldType.long), Jvm.Cond.code ({ cls := "java/lang/Math", name := "multiplyExact", desc := "(JJ)J" } : Jvm.MethodName) jdk_29_method_30_code (10 : Nat) (Option.some Jvm.ClassFile.FieldType.long), Jvm.Cond.code ({ cls := "java/lang/Math", name := "abs", desc := "(J)J" } : Jvm.MethodName) jdk_29_method_61_code (2 : Nat) (Option.some Jvm.ClassFile.FieldType.long), Jvm.Cond.code ({ cls := "com/example/danaid/danaid/TokenBucketUnits", name := "capacity", desc := "()J" } : Jvm.MethodName) prog_14_method_7_code (1 : Nat) (Option.some Jvm.ClassFile.FieldType.long), Jvm.Cond.code ({ cls := "com/example/danaid/danaid/TokenBucketUnits", name := "perToken", desc := "()J" } : Jvm.MethodName) prog_14_method_5_code (1 : Nat) (Option.some Jvm.ClassFile.FieldType.long), Jvm.Cond.code ({ cls := "com/example/danaid/danaid/TokenBucketUnits", name := "missingAfterTaking", desc := "(JJ)J" } : Jvm.MethodName) prog_14_method_12_code (7 : Nat) (Option.some Jvm.ClassFile.FieldType.long), Jvm.Cond.code ({ cls := "java/lang/Math", name := "max", desc := "(JJ)J" } : Jvm.MethodName) jdk_29_method_66_code (4 : Nat) (Option.some Jvm.ClassFile.FieldType.long)]
set_option maxRecDepth 65536 in
theorem codes_eq : words1.filter isCode = codes1 := rfl
theorem w_codes : ∀ c ∈ words1.filter isCode, c.before args0 about1 = true := by
  rw [codes_eq]
  intro c hc
  simp only [codes1, List.mem_cons, List.not_mem_nil, or_false] at hc
  rcases hc with rfl | rfl | rfl | rfl | rfl | rfl | rfl | rfl | rfl
  · exact w_c0
  · exact w_c1
  · exact w_c2
  · exact w_c3
  · exact w_c4
  · exact w_c5
  · exact w_c6
  · exact w_c7
  · exact w_c8
set_option maxRecDepth 65536 in
theorem w_t1 : (words1.take 24).all (fun c => isCode c || c.before args0 about1) = true := by decide +kernel
set_option maxRecDepth 65536 in
theorem w_t2 : ((words1.drop 24).take 24).all (fun c => isCode c || c.before args0 about1) = true := by decide +kernel
set_option maxRecDepth 65536 in
theorem w_t3 : ((words1.drop 24).drop 24).all (fun c => isCode c || c.before args0 about1) = true := by decide +kernel
theorem w_tables : (allAtoms (Jvm.Cond.code x code maxLocals ret :: tables_1)).before args0 about1 = true := by
  rw [allAtoms_all]
  show words1.all (fun c => c.before args0 about1) = true
  refine all_split ?_ w_codes
  rw [← List.take_append_drop 24 words1, List.all_append, w_t1, ← List.take_append_drop 24 (words1.drop 24), List.all_append, w_t2, w_t3]
  rfl
set_option maxRecDepth 65536 in
theorem w_case : (Jvm.Cond.and given_1 narrow_1).before args0 about1 = true := by decide +kernel
theorem w_applies : (headSpec (Jvm.Cond.code x code maxLocals ret :: tables_1) room_1).applies x e0.platform about1 = true :=
  (Spec.applies_iff w_frames).mpr ⟨w_running, w_runnable, w_alone, w_named, w_hears, w_ripe, w_room, w_tables⟩
theorem atStart : AtStart classFile x code maxLocals ret World_1 tables_1 room_1 Calls_1 rest_1 Pre_1 launch0 p0 e0 about1 theMethod args0 below0 :=
  ⟨lists_1, trivial, launch0.admits_env _ _ _, launch0.least_env, fairChoices_fair.cas, fairChoices_fair.clock, w_frames, w_args, w_heap, w_applies, trivial, trivial, w_case⟩
end start1
theorem witness_1 : WitnessClaimed_1 := ⟨start1.p0, start1.e0, start1.about1, start1.theMethod, start1.args0, start1.below0, start1.atStart⟩
end Jvm.Pilot.@@N@@
