import JvmDerived
import JvmDerived.Pilot.@@N@@Statement
import JvmDerived.Pilot.@@N@@Code
set_option linter.unusedVariables false
set_option linter.unusedSimpArgs false
@@BLOCK:NumsL.lean.txt@@
namespace Jvm.RoadKit
open Sem ClassFile Op Lib Jvm.Stand Jvm.Free Jvm.LawKit
section Goes
variable {p : Program} {l : Launch} {e : Env} {R : Room} {s : State} {m : MethodId} {args : Array Value} {below : List Frame} {meth : Method} {c : Code} {T : State} {locs : List Loc} {cells slots : Nat}
/-- from here the run comes to its return, and Q holds there -/
def Goes (p : Program) (e : Env) (below : List Frame) (s : State) (Q : Option Value → Heap → List Loc → Prop) (kc ks : Nat) (S : State) : Prop :=
  ∃ s₂ o, Steps p.tables e below S s₂ ∧ s₂.status = .running ∧ Ended s₂ below o ∧ ∃ v L, o = .returned v ∧ Q v s₂.heap L ∧ FrameEnd s o s₂ L kc ks
variable {Q Q' : Option Value → Heap → List Loc → Prop} {kc ks : Nat} {A B : State}
theorem Goes.go (h : ∀ t, Steps p.tables e below A t → Steps p.tables e below B t) (g : Goes p e below s Q kc ks A) : Goes p e below s Q kc ks B := by
  obtain ⟨s2, o, h1, h2⟩ := g
  exact ⟨s2, o, h _ h1, h2⟩
theorem Goes.tr (h : Steps p.tables e below B A) (g : Goes p e below s Q kc ks A) : Goes p e below s Q kc ks B := g.go fun _ k => h.trans k
theorem Goes.weaken (h : ∀ v hp L, Q' v hp L → Q v hp L) (g : Goes p e below s Q' kc ks A) : Goes p e below s Q kc ks A := by
  obtain ⟨s2, o, h1, h2, h3, v, L, h4, h5, h6⟩ := g
  exact ⟨s2, o, h1, h2, h3, v, L, h4, h _ _ _ h5, h6⟩
theorem Goes.castQ (h : Q = Q') (g : Goes p e below s Q' kc ks A) : Goes p e below s Q kc ks A := h ▸ g
theorem Goes.out (X : Stand p l e R s m args below meth c T locs cells slots) (hlk : meth.locks = false) {v : Option Value} (hv : meth.sig.returnType = none → v = none) {F : State}
    (hstep : ∀ fs, (∀ (f : JFrame) (acts : List Action), f.method = m → f.locked = none → f.entered = [] → (doReturn e (T.setTop f) acts v).1 = T.setFrames fs) → Steps p.tables e below F (T.setFrames fs))
    (hq : Q v T.heap locs) (hc : cells ≤ kc) (hs : slots ≤ ks) : Goes p e below s Q kc ks F := by
  obtain ⟨fs, hr, hrun, hended, hW, hsame⟩ := X.leave (v := v) hv hlk
  exact ⟨_, _, hstep fs hr, hrun, hended, _, _, rfl, hq, ⟨_, rfl⟩, hW, hsame.mono hc hs⟩
theorem retI (X : Stand p l e R s m args below meth c T locs cells slots) (hx : p.tables.exec = Jvm.exec) {pc : Nat} {Ls : Array Slot} {z : Int32} {rest : List Value} (hret : meth.sig.returnType = some .int) (hd : decode c.code pc = .ok (.ireturn, 1)) {fs : List Frame}
    (hl : ∀ (f : JFrame) (acts : List Action), f.method = m → f.locked = none → f.entered = [] → (doReturn e (T.setTop f) acts (some (.int z))).1 = T.setFrames fs) : Steps p.tables e below (T.setTop (mkF m pc Ls (.int z :: rest))) (T.setFrames fs) := by
  have hm' : T.vm.method? m = some meth := X.method'
  have hn : narrow .int (.int z) = .int z := rfl
  show Steps p.tables e below (T.setTop { method := m, pc := pc, locals := Ls, stack := _ :: rest, locked := none }) _
  jvm_step X.here [X.here.top, hx, hd, hm', hret, hn]
  first | (intro acts; rw [hl _ acts rfl rfl rfl]) | rw [hl _ _ rfl rfl rfl]
  exact Steps.refl _
theorem Goes.retI (X : Stand p l e R s m args below meth c T locs cells slots) (hx : p.tables.exec = Jvm.exec) (hlk : meth.locks = false) (hret : meth.sig.returnType = some .int) {pc : Nat} {Ls : Array Slot} {z : Int32} {rest : List Value} (hd : decode c.code pc = .ok (.ireturn, 1))
    (hq : Q (some (.int z)) T.heap locs) (hc : cells ≤ kc) (hs : slots ≤ ks) : Goes p e below s Q kc ks (T.setTop (mkF m pc Ls (.int z :: rest))) :=
  Goes.out X hlk (fun h => by rw [hret] at h; cases h) (fun fs hr => Jvm.RoadKit.retI X hx hret hd hr) hq hc hs
theorem Goes.retN (t : FieldType) (X : Stand p l e R s m args below meth c T locs cells slots) (hx : p.tables.exec = Jvm.exec) (hlk : meth.locks = false) (hret : meth.sig.returnType = some t) (ht : t = .boolean ∨ t = .byte ∨ t = .char ∨ t = .short) {pc : Nat} {Ls : Array Slot} {z : Int32} {rest : List Value} (hd : decode c.code pc = .ok (.ireturn, 1))
    (hq : Q (some (.int (nar t z))) T.heap locs) (hc : cells ≤ kc) (hs : slots ≤ ks) : Goes p e below s Q kc ks (T.setTop (mkF m pc Ls (.int z :: rest))) :=
  Goes.out X hlk (fun h => by rw [hret] at h; cases h) (fun fs hr => Jvm.RoadKit.retN X hx hret ht hd hr) hq hc hs
theorem Goes.ret0 (X : Stand p l e R s m args below meth c T locs cells slots) (hx : p.tables.exec = Jvm.exec) (hlk : meth.locks = false) (hret : meth.sig.returnType = none) {pc : Nat} {Ls : Array Slot} (hd : decode c.code pc = .ok (.return_, 1))
    (hq : Q none T.heap locs) (hc : cells ≤ kc) (hs : slots ≤ ks) : Goes p e below s Q kc ks (T.setTop (mkF m pc Ls [])) :=
  Goes.out X hlk (fun _ => rfl) (fun fs hr => X.returnOut hx hret hd hr) hq hc hs
theorem Goes.retJ (X : Stand p l e R s m args below meth c T locs cells slots) (hx : p.tables.exec = Jvm.exec) (hlk : meth.locks = false) (hret : meth.sig.returnType = some .long) {pc : Nat} {Ls : Array Slot} {z : Int64} (hd : decode c.code pc = .ok (.lreturn, 1))
    (hq : Q (some (.long z)) T.heap locs) (hc : cells ≤ kc) (hs : slots ≤ ks) : Goes p e below s Q kc ks (T.setTop (mkF m pc Ls [.long z])) :=
  Goes.out X hlk (fun h => by rw [hret] at h; cases h) (fun fs hr => X.lreturnOut hx hret hd hr) hq hc hs
theorem Goes.retA (X : Stand p l e R s m args below meth c T locs cells slots) (hx : p.tables.exec = Jvm.exec) (hlk : meth.locks = false) {w : Value} (hw : w.isRef = true) {t : FieldType} (hret : meth.sig.returnType = some t) (ht : t.isReference = true) {pc : Nat} {Ls : Array Slot} (hd : decode c.code pc = .ok (.areturn, 1))
    (hq : Q (some w) T.heap locs) (hc : cells ≤ kc) (hs : slots ≤ ks) : Goes p e below s Q kc ks (T.setTop (mkF m pc Ls [w])) :=
  Goes.out X hlk (fun h => by rw [hret] at h; cases h) (fun fs hr => X.areturnOut hx hw hret ht hd hr) hq hc hs
/-- the answer of a method that writes nothing -/
def Qp (z : Value) (h0 : Heap) (n0 : Nat) (v : Option Value) (h : Heap) (L : List Loc) : Prop := v = some z ∧ Fr n0 L ∧ h = h0
/-- the answer of a method that writes nothing and returns nothing -/
def Qn (h0 : Heap) (n0 : Nat) (v : Option Value) (h : Heap) (L : List Loc) : Prop := v = none ∧ Fr n0 L ∧ h = h0
theorem Goes.qi {z z' : Int32} {h0 : Heap} {n0 : Nat} (h : z = z') (g : Goes p e below s (Qp (.int z') h0 n0) kc ks A) : Goes p e below s (Qp (.int z) h0 n0) kc ks A := h ▸ g
theorem Goes.qj {z z' : Int64} {h0 : Heap} {n0 : Nat} (h : z = z') (g : Goes p e below s (Qp (.long z') h0 n0) kc ks A) : Goes p e below s (Qp (.long z) h0 n0) kc ks A := h ▸ g
end Goes
end Jvm.RoadKit
namespace Jvm.RoadKit
open Sem ClassFile Op Lib Jvm.Stand Jvm.Free Jvm.LawKit
/-- an array of ints (bytes, chars, booleans): its length and what each place holds -/
def IA (Z : State) (h : Heap) (a : Addr) (ty : FieldType) (n : Nat) (f : Nat → Int32) : Prop :=
  ∃ c : Cell, Arr Z h a c ty ∧ c.slots.size = n ∧ n < 2 ^ 31 ∧ ∀ i, i < n → c.slots[i]? = some (.int (f i)) ∧ fits ty (.int (f i)) = true
def own_upd (f : Nat → Int32) (i : Nat) (v : Int32) : Nat → Int32 := fun k => if k = i then v else f k
section IAs
variable {p : Program} {l : Launch} {e : Env} {R : Room} {s : State} {m : MethodId} {args : Array Value} {below : List Frame} {meth : Method} {c : Code} {T : State} {locs : List Loc} {cells slots : Nat} {Z : State} {a0 : Array Value} {h h' : Heap} {a b : Addr} {ty : FieldType} {n : Nat} {f f' : Nat → Int32} {sl : Nat} {v : Value} {ws : List Addr}
theorem IA.lt (F : IA Z h a ty n f) : a < h.size := by obtain ⟨c, A, -⟩ := F; exact A.lt
theorem IA.ext (F : IA Z h a ty n f) (E : Ext h h') : IA Z h' a ty n f := by obtain ⟨c, A, r⟩ := F; exact ⟨c, A.ext E, r⟩
theorem IA.other (F : IA Z h b ty n f) (W : Wr h h' a sl v) (q : b ≠ a) : IA Z h' b ty n f := by obtain ⟨c, A, r⟩ := F; exact ⟨c, A.other W q, r⟩
theorem IA.keep (F : IA Z h a ty n f) (K : Keep h h' ws) (q : a ∉ ws) : IA Z h' a ty n f := by obtain ⟨c, A, r⟩ := F; exact ⟨c, ⟨K.2.1 a c A.1 q, A.2⟩, r⟩
theorem IA.as (F : IA Z h a ty n f) (q : ∀ i, i < n → f i = f' i) : IA Z h a ty n f' := by
  obtain ⟨c, A, S, M, H⟩ := F
  exact ⟨c, A, S, M, fun i hi => by rw [← q i hi]; exact H i hi⟩
theorem IA.bound (F : IA Z h a ty n f) : n < 2 ^ 31 := by obtain ⟨c, A, S, M, H⟩ := F; exact M
theorem own_nat {i : Nat} (hi : i < 2 ^ 31) : (Int32.ofNat i).toInt = i := Int32.toInt_ofNat_of_lt (by omega)
theorem own_cl {i : Nat} (hi : i < 2 ^ 31) : (Int32.ofNat i).toNatClampNeg = i := by
  have := own_nat hi
  show (Int32.ofNat i).toInt.toNat = i
  omega
theorem own_in {i : Nat} (hi : i < n) (hn : n < 2 ^ 31) : ¬ (Int32.ofNat i < 0 ∨ n ≤ (Int32.ofNat i).toNatClampNeg) := by
  rw [own_cl (by omega)]
  rintro (q | q)
  · have := Int32.lt_iff_toInt_lt.mp q
    rw [own_nat (by omega)] at this
    have z : (0 : Int32).toInt = 0 := rfl
    omega
  · omega
theorem IA.set {c : Cell} (A : Arr Z h a c ty) (S : c.slots.size = n) (M : n < 2 ^ 31) (H : ∀ i, i < n → c.slots[i]? = some (.int (f i)) ∧ fits ty (.int (f i)) = true) {i : Nat} (hi : i < n) {x : Int32} (hx : fits ty (.int x) = true) (W : Wr h h' a i (.int x)) : IA Z h' a ty n (own_upd f i x) := by
  refine ⟨c.setSlot i (.int x), A.same W, by rw [sz_set]; exact S, M, fun k hk => ?_⟩
  by_cases q : k = i
  · subst q
    simp only [own_upd, if_pos]
    exact ⟨by simp [Cell.setSlot, S, hk], hx⟩
  · simp only [own_upd, if_neg q]
    refine ⟨?_, (H k hk).2⟩
    rw [← (H k hk).1]
    simp only [Cell.setSlot]
    exact Array.getElem?_setIfInBounds_ne (Ne.symm q)
theorem own_newA (X : Stand p l e R s m args below meth c T locs cells slots) (hx : p.tables.exec = Jvm.exec) (hZ : Z.Warmed39 s.vm) {aty : ArrayType} (w : (Cond.arrayClass (newarray.typeOf aty)).before a0 Z = true) (eT : T.heap = h) {g : JFrame} (hg : g.method = m) (hd : decode c.code g.pc = .ok (.newarray aty, 2)) {z : Int32} {rest : List Value} (hs : g.stack = .int z :: rest)
    {n : Nat} (hz : z = Int32.ofNat n) {cap : Nat} (hcap : n ≤ cap) (hb : cap * 8 ≤ 536870912) (hc : cells + 1 ≤ R.cells) (hl : slots + cap ≤ R.slots) (hdv : defaultValue (newarray.typeOf aty) = .int 0) (hft : fits (newarray.typeOf aty) (.int 0) = true) {ad : String} (had : "[" ++ (newarray.typeOf aty).toString = ad) :
    ∃ T' h', Stand p l e R s m args below meth c T' locs (cells + 1) (slots + cap) ∧ T'.heap = h' ∧ Ext h h' ∧ IA Z h' h.size (newarray.typeOf aty) n (fun _ => 0) ∧ Exa Z h' h.size ad ∧
      ∀ target, Steps p.tables e below (T'.setTop { g with pc := g.pc + 2, stack := .ref h.size :: rest }) target → Steps p.tables e below (T.setTop g) target := by
  have hn31 : n < 2 ^ 31 := by omega
  have hcl : z.toNatClampNeg = n := by rw [hz]; exact own_cl hn31
  have hneg : ¬ z < 0 := by
    rw [hz]; intro q
    have := Int32.lt_iff_toInt_lt.mp q
    rw [own_nat hn31] at this
    have z : (0 : Int32).toInt = 0 := rfl
    omega
  obtain ⟨T', h', cA, X', e', E, A, EX, st⟩ := newPE X hx hZ w eT hg hd hs hneg (cap := cap) (by rw [hcl]; exact hcap) hb hc hl had
  refine ⟨T', h', X', e', E, ⟨_, A, by rw [sz_new]; exact hcl, hn31, fun i hi => ⟨?_, hft⟩⟩, EX, st⟩
  have := get_new (cA := cA) (ty := newarray.typeOf aty) (n := z) (k := Int32.ofNat i) (by rw [hcl]; exact own_in hi hn31)
  rw [own_cl (by omega), hdv] at this
  exact this
theorem own_stI (X : Stand p l e R s m args below meth c T locs cells slots) (hx : p.tables.exec = Jvm.exec) (hZ : Z.Warmed39 s.vm) (eT : T.heap = h) (A : IA Z h a .int n f) {j x : Int32} {i : Nat} (hj : j = Int32.ofNat i) (hi : i < n) {g : JFrame} (hg : g.method = m) {rest : List Value} (hs : g.stack = .int x :: .int j :: .ref a :: rest) (hd : decode c.code g.pc = .ok (.iastore, 1)) :
    ∃ T' h', Stand p l e R s m args below meth c T' (locs ++ [⟨a, i⟩]) cells slots ∧ T'.heap = h' ∧ Wr h h' a i (.int x) ∧ IA Z h' a .int n (own_upd f i x) ∧ ∀ target, Steps p.tables e below (T'.setTop { g with pc := g.pc + 1, stack := rest }) target → Steps p.tables e below (T.setTop g) target := by
  obtain ⟨cl, A, S, M, H⟩ := A
  subst hj
  obtain ⟨T', h', X', e', W, st⟩ := stI X hx hZ eT A (j := Int32.ofNat i) (by rw [S]; exact own_in hi M) hg hs hd
  rw [own_cl (by omega)] at X' W
  exact ⟨T', h', X', e', W, IA.set A S M H hi rfl W, st⟩
theorem own_stB (X : Stand p l e R s m args below meth c T locs cells slots) (hx : p.tables.exec = Jvm.exec) (hZ : Z.Warmed39 s.vm) (eT : T.heap = h) (A : IA Z h a .byte n f) {j x : Int32} {i : Nat} (hj : j = Int32.ofNat i) (hi : i < n) {g : JFrame} (hg : g.method = m) {rest : List Value} (hs : g.stack = .int x :: .int j :: .ref a :: rest) (hd : decode c.code g.pc = .ok (.bastore, 1)) :
    ∃ T' h', Stand p l e R s m args below meth c T' (locs ++ [⟨a, i⟩]) cells slots ∧ T'.heap = h' ∧ Wr h h' a i (.int (nar .byte x)) ∧ IA Z h' a .byte n (own_upd f i (nar .byte x)) ∧ ∀ target, Steps p.tables e below (T'.setTop { g with pc := g.pc + 1, stack := rest }) target → Steps p.tables e below (T.setTop g) target := by
  obtain ⟨cl, A, S, M, H⟩ := A
  subst hj
  obtain ⟨T', h', X', e', W, st⟩ := stB X hx hZ eT A (j := Int32.ofNat i) (by rw [S]; exact own_in hi M) hg hs hd
  rw [own_cl (by omega)] at X' W
  exact ⟨T', h', X', e', W, IA.set A S M H hi (fits_nar_byte _) W, st⟩
theorem own_stC (X : Stand p l e R s m args below meth c T locs cells slots) (hx : p.tables.exec = Jvm.exec) (hZ : Z.Warmed39 s.vm) (eT : T.heap = h) (A : IA Z h a .char n f) {j x : Int32} {i : Nat} (hj : j = Int32.ofNat i) (hi : i < n) {g : JFrame} (hg : g.method = m) {rest : List Value} (hs : g.stack = .int x :: .int j :: .ref a :: rest) (hd : decode c.code g.pc = .ok (.castore, 1)) :
    ∃ T' h', Stand p l e R s m args below meth c T' (locs ++ [⟨a, i⟩]) cells slots ∧ T'.heap = h' ∧ Wr h h' a i (.int (nar .char x)) ∧ IA Z h' a .char n (own_upd f i (nar .char x)) ∧ ∀ target, Steps p.tables e below (T'.setTop { g with pc := g.pc + 1, stack := rest }) target → Steps p.tables e below (T.setTop g) target := by
  obtain ⟨cl, A, S, M, H⟩ := A
  subst hj
  obtain ⟨T', h', X', e', W, st⟩ := stC X hx hZ eT A (j := Int32.ofNat i) (by rw [S]; exact own_in hi M) hg hs hd
  rw [own_cl (by omega)] at X' W
  exact ⟨T', h', X', e', W, IA.set A S M H hi (fits_nar_char _) W, st⟩
theorem own_stZ (X : Stand p l e R s m args below meth c T locs cells slots) (hx : p.tables.exec = Jvm.exec) (hZ : Z.Warmed39 s.vm) (eT : T.heap = h) (A : IA Z h a .boolean n f) {j x : Int32} {i : Nat} (hj : j = Int32.ofNat i) (hi : i < n) {g : JFrame} (hg : g.method = m) {rest : List Value} (hs : g.stack = .int x :: .int j :: .ref a :: rest) (hd : decode c.code g.pc = .ok (.bastore, 1)) :
    ∃ T' h', Stand p l e R s m args below meth c T' (locs ++ [⟨a, i⟩]) cells slots ∧ T'.heap = h' ∧ Wr h h' a i (.int (nar .boolean x)) ∧ IA Z h' a .boolean n (own_upd f i (nar .boolean x)) ∧ ∀ target, Steps p.tables e below (T'.setTop { g with pc := g.pc + 1, stack := rest }) target → Steps p.tables e below (T.setTop g) target := by
  obtain ⟨cl, A, S, M, H⟩ := A
  subst hj
  obtain ⟨T', h', X', e', W, st⟩ := stZ X hx hZ eT A (j := Int32.ofNat i) (by rw [S]; exact own_in hi M) hg hs hd
  rw [own_cl (by omega)] at X' W
  exact ⟨T', h', X', e', W, IA.set A S M H hi (fits_nar_bool _) W, st⟩
theorem own_ldI (X : Stand p l e R s m args below meth c T locs cells slots) (hx : p.tables.exec = Jvm.exec) (hZ : Z.Warmed39 s.vm) (eT : T.heap = h) (A : IA Z h a .int n f) {j : Int32} {i : Nat} (hj : j = Int32.ofNat i) (hi : i < n) {g : JFrame} (hg : g.method = m) {rest : List Value} (hs : g.stack = .int j :: .ref a :: rest) (hd : decode c.code g.pc = .ok (.iaload, 1)) :
    ∀ target, Steps p.tables e below (T.setTop { g with pc := g.pc + 1, stack := .int (f i) :: rest }) target → Steps p.tables e below (T.setTop g) target := by
  obtain ⟨cl, A, S, M, H⟩ := A
  subst hj
  exact X.iaload hx (j := Int32.ofNat i) (v := .int (f i)) (by rw [eT]; exact A.1) (State.isArrayOf_alike hZ.alike A.2.1) A.2.2 (by rw [S]; exact own_in hi M) (by rw [own_cl (by omega)]; exact (H i hi).1) hg hs hd
theorem own_ldB (X : Stand p l e R s m args below meth c T locs cells slots) (hx : p.tables.exec = Jvm.exec) (hZ : Z.Warmed39 s.vm) (eT : T.heap = h) (A : IA Z h a .byte n f) {j : Int32} {i : Nat} (hj : j = Int32.ofNat i) (hi : i < n) {g : JFrame} (hg : g.method = m) {rest : List Value} (hs : g.stack = .int j :: .ref a :: rest) (hd : decode c.code g.pc = .ok (.baload, 1)) :
    ∀ target, Steps p.tables e below (T.setTop { g with pc := g.pc + 1, stack := .int (f i) :: rest }) target → Steps p.tables e below (T.setTop g) target := by
  obtain ⟨cl, A, S, M, H⟩ := A
  subst hj
  exact X.baloadBytes hx (j := Int32.ofNat i) (v := .int (f i)) (by rw [eT]; exact A.1) (State.isArrayOf_alike hZ.alike A.2.1) A.2.2 (by rw [S]; exact own_in hi M) (by rw [own_cl (by omega)]; exact (H i hi).1) hg hs hd
theorem own_ldZ (X : Stand p l e R s m args below meth c T locs cells slots) (hx : p.tables.exec = Jvm.exec) (hZ : Z.Warmed39 s.vm) (eT : T.heap = h) (A : IA Z h a .boolean n f) {j : Int32} {i : Nat} (hj : j = Int32.ofNat i) (hi : i < n) {g : JFrame} (hg : g.method = m) {rest : List Value} (hs : g.stack = .int j :: .ref a :: rest) (hd : decode c.code g.pc = .ok (.baload, 1)) :
    ∀ target, Steps p.tables e below (T.setTop { g with pc := g.pc + 1, stack := .int (f i) :: rest }) target → Steps p.tables e below (T.setTop g) target := by
  obtain ⟨cl, A, S, M, H⟩ := A
  subst hj
  exact X.baloadBooleans hx (j := Int32.ofNat i) (v := .int (f i)) (by rw [eT]; exact A.1) (State.isArrayOf_alike hZ.alike A.2.1) A.2.2 (by rw [S]; exact own_in hi M) (by rw [own_cl (by omega)]; exact (H i hi).1) hg hs hd
theorem own_ldC (X : Stand p l e R s m args below meth c T locs cells slots) (hx : p.tables.exec = Jvm.exec) (hZ : Z.Warmed39 s.vm) (eT : T.heap = h) (A : IA Z h a .char n f) {j : Int32} {i : Nat} (hj : j = Int32.ofNat i) (hi : i < n) {g : JFrame} (hg : g.method = m) {rest : List Value} (hs : g.stack = .int j :: .ref a :: rest) (hd : decode c.code g.pc = .ok (.caload, 1)) :
    ∀ target, Steps p.tables e below (T.setTop { g with pc := g.pc + 1, stack := .int (f i) :: rest }) target → Steps p.tables e below (T.setTop g) target := by
  obtain ⟨cl, A, S, M, H⟩ := A
  subst hj
  exact X.caload hx (j := Int32.ofNat i) (v := .int (f i)) (by rw [eT]; exact A.1) (State.isArrayOf_alike hZ.alike A.2.1) A.2.2 (by rw [S]; exact own_in hi M) (by rw [own_cl (by omega)]; exact (H i hi).1) hg hs hd
theorem own_len (X : Stand p l e R s m args below meth c T locs cells slots) (hx : p.tables.exec = Jvm.exec) (hZ : Z.Warmed39 s.vm) (eT : T.heap = h) (A : IA Z h a ty n f) {g : JFrame} (hg : g.method = m) {rest : List Value} (hs : g.stack = .ref a :: rest) (hd : decode c.code g.pc = .ok (.arraylength, 1)) :
    ∀ target, Steps p.tables e below (T.setTop { g with pc := g.pc + 1, stack := .int (Int32.ofNat n) :: rest }) target → Steps p.tables e below (T.setTop g) target := by
  obtain ⟨cl, A, S, M, H⟩ := A
  subst S
  exact X.arraylength hx (by rw [eT]; exact A.1) (State.isArrayOf_alike hZ.alike A.2.1) hg hs hd
end IAs
end Jvm.RoadKit
namespace Jvm.RoadKit
open Sem ClassFile Op Lib Jvm.Stand Jvm.Free Jvm.LawKit
theorem own_eqNat {x : Int32} {n : Nat} (h : x.toInt = n) : x = Int32.ofNat n := Int32.toInt_inj.mp (by rw [h, own_nat (by have := x.toInt_lt; omega)])
theorem own_andN (x m : Int32) (k : Nat) (hk : k < 32) (hm : m.toBitVec.toNat = 2 ^ k - 1) : ∃ n : Nat, n < 2 ^ k ∧ x &&& m = Int32.ofNat n := by
  have h := Jvm.Kit.i32_mask x m hk hm
  have hpos : (0 : Int) < 2 ^ k := Int.pow_pos (by decide)
  have h1 := Int.emod_nonneg x.toInt (Int.ne_of_gt hpos)
  have h2 := Int.emod_lt_of_pos x.toInt hpos
  refine ⟨(x.toInt % 2 ^ k).toNat, ?_, own_eqNat ?_⟩
  · have e : ((2 ^ k : Nat) : Int) = (2 : Int) ^ k := by rw [Int.natCast_pow]; rfl
    omega
  · rw [h]; omega
theorem own_modN (x : Int32) (d : Nat) (h0 : 0 < d) (hd : d < 2 ^ 31) : ∃ n : Nat, n < d ∧ (x &&& 2147483647) % Int32.ofNat d = Int32.ofNat n := by
  have h := Jvm.Kit.i32_mask x 2147483647 (k := 31) (by decide) (by decide)
  have h1 := Int.emod_nonneg x.toInt (show (2 : Int) ^ 31 ≠ 0 by decide)
  have e := Jvm.Kit.i32_rem_nonneg (x := x &&& 2147483647) (y := Int32.ofNat d) (by rw [h]; exact h1)
  rw [own_nat hd] at e
  have h2 := Int.emod_nonneg (x &&& 2147483647).toInt (show (d : Int) ≠ 0 by omega)
  have h3 := Int.emod_lt_of_pos (x &&& 2147483647).toInt (show (0 : Int) < d by omega)
  exact ⟨((x &&& 2147483647).toInt % d).toNat, by omega, own_eqNat (by rw [e]; omega)⟩
theorem own_lt {i n : Nat} (hi : i < 2 ^ 31) (hn : n < 2 ^ 31) : Int32.ofNat i < Int32.ofNat n ↔ i < n := by
  rw [Int32.lt_iff_toInt_lt, own_nat hi, own_nat hn]; omega
theorem own_inj {i n : Nat} (hi : i < 2 ^ 31) (hn : n < 2 ^ 31) : Int32.ofNat i = Int32.ofNat n ↔ i = n := by
  rw [← Int32.toInt_inj, own_nat hi, own_nat hn]; omega
theorem own_add {i n : Nat} (h : i + n < 2 ^ 31) : Int32.ofNat i + Int32.ofNat n = Int32.ofNat (i + n) :=
  own_eqNat (by rw [Jvm.Kit.i32_add (by rw [own_nat (by omega), own_nat (by omega)]; omega) (by rw [own_nat (by omega), own_nat (by omega)]; omega), own_nat (by omega), own_nat (by omega)]; omega)
end Jvm.RoadKit
namespace Jvm.RoadKit
open Sem ClassFile Op Lib Jvm.Stand Jvm.Free Jvm.LawKit
section Switch
variable {p : Program} {l : Launch} {e : Env} {R : Room} {s : State} {m : MethodId} {args : Array Value} {below : List Frame} {meth : Method} {c : Code} {T : State} {locs : List Loc} {cells slots : Nat}
theorem own_lswH (X : Stand p l e R s m args below meth c T locs cells slots) (hx : p.tables.exec = Jvm.exec) {g : JFrame} (hg : g.method = m) {k : Int32} {rest : List Value} {pc0 pc' : Nat} (hpc : g.pc = pc0)
    (hs : g.stack = .int k :: rest) {dflt : Int} {pairs : Array (Int × Int)} {len : Nat} (hd : decode c.code g.pc = .ok (.lookupswitch dflt pairs, len))
    (hsorted : (pairs.toList.zip (pairs.toList.drop 1)).all (fun (a, next) => a.1 < next.1) = true) {a off : Int} (hfind : pairs.find? (·.1 == k.toInt) = some (a, off)) (ho : 0 ≤ (pc0 : Int) + off) (hp : ((pc0 : Int) + off).toNat = pc')
    (target : State) (hr : Steps p.tables e below (T.setTop { g with pc := pc', stack := rest }) target) : Steps p.tables e below (T.setTop g) target := by
  subst hpc hp
  exact X.lookupswitchHit hx hg hs hd hsorted hfind ho target hr
theorem own_lswM (X : Stand p l e R s m args below meth c T locs cells slots) (hx : p.tables.exec = Jvm.exec) {g : JFrame} (hg : g.method = m) {k : Int32} {rest : List Value} {pc0 pc' : Nat} (hpc : g.pc = pc0)
    (hs : g.stack = .int k :: rest) {dflt : Int} {pairs : Array (Int × Int)} {len : Nat} (hd : decode c.code g.pc = .ok (.lookupswitch dflt pairs, len))
    (hsorted : (pairs.toList.zip (pairs.toList.drop 1)).all (fun (a, next) => a.1 < next.1) = true) (hfind : ∀ q ∈ pairs.toList, q.1 ≠ k.toInt) (ho : 0 ≤ (pc0 : Int) + dflt) (hp : ((pc0 : Int) + dflt).toNat = pc')
    (target : State) (hr : Steps p.tables e below (T.setTop { g with pc := pc', stack := rest }) target) : Steps p.tables e below (T.setTop g) target := by
  subst hpc hp
  exact X.lookupswitchMiss hx hg hs hd hsorted (find_miss hfind) ho target hr
theorem own_nk {x y : Int32} {z : Int} (hz : y.toInt = z) (h : ¬ x = y) : z ≠ x.toInt := fun q => h (Int32.toInt_inj.mp (q.symm.trans hz.symm))
end Switch
end Jvm.RoadKit
namespace Jvm.RoadKit
open Sem ClassFile Op Lib Jvm.Stand Jvm.Free Jvm.LawKit
section Statics
variable {Z : State} {args : Array Value} {C n d K : String} {t : Term} {a : Addr}
theorem own_sta (h : (Cond.exactly (.static C n d) K).value args Z none Z [] = some true) (hi : (Cond.initialized C).before args Z = true) (hl : (Cond.laysStatic C n d).before args Z = true) : ∃ a, (Term.static C n d).eval args Z none [] Z = some (.ref a) ∧ Sta Z Z.heap C n d (.ref a) ∧ Exa Z Z.heap a K := by
  obtain ⟨a, e⟩ := exa_v h
  exact ⟨a, e, Sta.start e (Or.inr ⟨hi, hl⟩), Exa.start e h⟩
theorem own_stfI {k : Int32} (e : t.eval args Z none [] Z = some (.ref a)) (h : (Cond.eq (.field t C n d) (.int k)).value args Z none Z [] = some true) : Fld Z Z.heap a C n d (.int k) := by
  apply Fld.start
  simp only [Cond.value, Term.eval, e, Option.bind_eq_bind, Option.bind_some] at h
  cases hf : Z.fieldOf? a C n d with
  | none => simp [hf] at h
  | some x => cases x <;> simp [hf] at h ⊢; exact h
theorem own_stfJ {k : Int64} (e : t.eval args Z none [] Z = some (.ref a)) (h : (Cond.eq (.field t C n d) (.long k)).value args Z none Z [] = some true) : Fld Z Z.heap a C n d (.long k) := by
  apply Fld.start
  simp only [Cond.value, Term.eval, e, Option.bind_eq_bind, Option.bind_some] at h
  cases hf : Z.fieldOf? a C n d with
  | none => simp [hf] at h
  | some x => cases x <;> simp [hf] at h ⊢; exact h
end Statics
end Jvm.RoadKit
namespace Jvm.RoadKit
open Sem ClassFile Op Lib Jvm.Stand Jvm.Free Jvm.LawKit
theorem own_lrem {tb : Tables} [Ours tb] {e : Env} {below : List Frame} {T target : State} {m : MethodId} {c : Code} {g : JFrame} (h : At T m c below) (hx : tb.exec = Jvm.exec) (hg : g.method = m) {x y : Int64} {rest : List Value} (hd : decode c.code g.pc = .ok (.lrem, 1)) (hs : g.stack = .long y :: .long x :: rest) (hy : y ≠ 0)
    (hr : Steps tb e below (T.setTop { g with pc := g.pc + 1, stack := .long (x % y) :: rest }) target) : Steps tb e below (T.setTop g) target :=
  XS.lrem h hx hg hd hs hy (by rw [lrem_mod]; exact hr)
theorem own_irem_mod (x y : Int32) : x - (x / y) * y = x % y := by
  apply Int32.toInt_inj.mp
  have h1 := Int32.le_toInt (x % y)
  have h2 := Int32.toInt_lt (x % y)
  rw [Int32.toInt_sub, Int32.toInt_mul, Int32.toInt_div, Int.bmod_mul_bmod, Int.sub_bmod_bmod, Int.mul_comm (x.toInt.tdiv y.toInt), ← Int.tmod_def, ← Int32.toInt_mod]
  exact Int.bmod_eq_of_le_mul_two (by omega) (by omega)
theorem own_irem {tb : Tables} [Ours tb] {e : Env} {below : List Frame} {T target : State} {m : MethodId} {c : Code} {g : JFrame} (h : At T m c below) (hx : tb.exec = Jvm.exec) (hg : g.method = m) {x y : Int32} {rest : List Value} (hd : decode c.code g.pc = .ok (.irem, 1)) (hs : g.stack = .int y :: .int x :: rest) (hy : y ≠ 0)
    (hr : Steps tb e below (T.setTop { g with pc := g.pc + 1, stack := .int (x % y) :: rest }) target) : Steps tb e below (T.setTop g) target :=
  XS.irem h hx hg hd hs hy (by rw [own_irem_mod]; exact hr)
theorem own_div1 (x : Int64) : x / 1 = x := Int64.toInt_inj.mp (by
  rw [Jvm.Kit.i64_div (fun q => by have := q.2; revert this; decide)]
  show x.toInt.tdiv 1 = x.toInt
  exact Int.tdiv_one _)
end Jvm.RoadKit
namespace Jvm.RoadKit
open Sem ClassFile Op Lib Jvm.Stand Jvm.Free Jvm.LawKit
theorem own_kx {h h' : Heap} (K : Keep h h' []) : Ext h h' := ⟨K.1, fun a c q => K.2.1 a c q nin0⟩
section Unlike
variable {Z : State} {a0 : Array Value}
theorem own_nsroot {O K : String} {n : Nat} (w : (Cond.noSuperclass O).before a0 Z = true) (wk : (Cond.instantiable K n).before a0 Z = true) (hn : O ≠ K) : NS Z O K := by
  obtain ⟨c, k, h1, h2, h3, -, -⟩ := Cond.noSuperclass_spec w
  obtain ⟨t, k', g1, g2, -⟩ := Cond.instantiable_spec wk
  have ne := ids_ne h1 g1 hn
  refine ⟨c, t, h1, g1, fun fuel => ?_⟩
  cases fuel with
  | zero => rfl
  | succ f => simp [Vm.isSubclassAux, ne, h2, h3]
theorem own_nsno {C S K : String} {n : Nat} (w : (Cond.superclass C S).before a0 Z = true) (wk : (Cond.instantiable K n).before a0 Z = true) (N : NS Z C K) (hn : C ≠ K) : ∃ c t, Z.vm.findClass C = some c ∧ Z.vm.findClass K = some t ∧ Z.vm.assignable c t = false := by
  obtain ⟨c, t, h0, g0, n3⟩ := N
  obtain ⟨p, k, kp, h1, h2, h3, h4, h5, -, h7⟩ := Cond.superclass_spec h0 w
  obtain ⟨t', k', g1, g2, g3, g4, -⟩ := Cond.instantiable_spec wk
  cases g0.symm.trans g1
  have g7 : k'.isInterface = false := by
    cases hq : k'.isInterface with
    | false => rfl
    | true => rw [hq] at g4; simp at g4
  have ne := ids_ne h0 g0 hn
  refine ⟨c, t, h0, g0, ?_⟩
  show Z.vm.assignableAux (255 + 1) c t = false
  simp [Vm.assignableAux, ne, h2, g2, h5, g3, g7, Vm.isSubclass, n3]
end Unlike
end Jvm.RoadKit
namespace Jvm.RoadKit
open Sem ClassFile Op Lib Jvm.Stand Jvm.Free Jvm.LawKit
section Clone
variable {p : Program} {l : Launch} {e : Env} {R : Room} {s : State} {m : MethodId} {args : Array Value} {below : List Frame} {meth : Method} {c : Code} {T : State} {locs : List Loc} {cells slots : Nat} {Z : State} {a0 : Array Value} {h : Heap} {a : Addr} {ty : FieldType} {n : Nat} {f : Nat → Int32}
theorem own_clone (X : Stand p l e R s m args below meth c T locs cells slots) (hx : p.tables.exec = Jvm.exec) (hZ : Z.Warmed39 s.vm) {own ad : String} {index : Nat} (hown : s.vm.findClass own = some m.cls)
    (w1 : (Cond.methodLink own index ⟨ad, "clone", "()Ljava/lang/Object;"⟩).before a0 Z = true) (w2 : (Cond.sameMethod ad "java/lang/Object" "clone" "()Ljava/lang/Object;").before a0 Z = true) (w3 : (Cond.native ⟨"java/lang/Object", "clone", "()Ljava/lang/Object;"⟩).before a0 Z = true)
    (w4 : (Cond.instanceMethod ⟨"java/lang/Object", "clone", "()Ljava/lang/Object;"⟩).before a0 Z = true) (w5 : (Cond.selects ad ⟨ad, "clone", "()Ljava/lang/Object;"⟩ ⟨"java/lang/Object", "clone", "()Ljava/lang/Object;"⟩).before a0 Z = true) (w6 : (Cond.castable ad "java/lang/Cloneable").before a0 Z = true)
    (eT : T.heap = h) (A : IA Z h a ty n f) (E : Exa Z h a ad) {g : JFrame} (hg : g.method = m) (hsize : g.locals.size = c.maxLocals) {rest : List Value} (hs : g.stack = .ref a :: rest) (hd : decode c.code g.pc = .ok (.invokevirtual index, 3))
    (hf : 1 ≤ R.frames) {W cap : Nat} (hW : 2 * g.monitorRoom + (rest.map fun v => v.category).sum ≤ W) (hl : W + 14 ≤ R.locals) (hcap : n ≤ cap) (hc : cells + 1 ≤ R.cells) (hsl : slots + cap ≤ R.slots) :
    ∃ T' h', Stand p l e R s m args below meth c T' locs (cells + 1) (slots + cap) ∧ T'.heap = h' ∧ Ext h h' ∧ IA Z h' h.size ty n f ∧ Exa Z h' h.size ad ∧
      ∀ target, Steps p.tables e below (T'.setTop { g with pc := g.pc + 3, stack := .ref h.size :: rest }) target → Steps p.tables e below (T.setTop g) target := by
  obtain ⟨cl, A, S, M, H⟩ := A
  have FC : FitC Z cl := fitC_of A fun i hi v hv => by
    rw [S] at hi
    rw [(H i hi).1] at hv
    cases hv
    exact (H i hi).2
  obtain ⟨T', h', X', e', ex, A', E', st⟩ := cloneA X hx hZ hown w1 w2 w3 w4 w5 w6 eT A E FC hg hsize hs hd hf hW hl (by rw [S]; exact hcap) hc hsl
  exact ⟨T', h', X', e', ex, ⟨cloneOf cl, A', S, M, H⟩, E', st⟩
end Clone
theorem own_sub {i n : Nat} (h : n ≤ i) (hi : i < 2 ^ 31) : Int32.ofNat i - Int32.ofNat n = Int32.ofNat (i - n) :=
  own_eqNat (by rw [Jvm.Kit.i32_sub (by rw [own_nat (by omega), own_nat (by omega)]; omega) (by rw [own_nat (by omega), own_nat (by omega)]; omega), own_nat (by omega), own_nat (by omega)]; omega)
end Jvm.RoadKit
namespace Jvm.RoadKit
open Sem ClassFile Op Lib Jvm.Stand Jvm.Free Jvm.LawKit
theorem own_stak {Z : State} {h h' : Heap} {C n d D : String} {v : Value} {a : Addr} (F : Sta Z h C n d v) (K : Keep h h' [a]) (E : Exa Z h a D) : Sta Z h' C n d v := by
  obtain ⟨cf, i, k, f, st, cell, h1, h2, h3, h4, h5, h6, h7⟩ := F
  obtain ⟨cell', k', e1, -, -, e4, -⟩ := E
  have ne : st ≠ a := fun q => by
    subst q
    cases h5.symm.trans e1
    rw [e4] at h6
    cases h6
  exact ⟨cf, i, k, f, st, cell, h1, h2, h3, h4, K.2.1 _ _ h5 (ninS ne nin0), h6, h7⟩
end Jvm.RoadKit
namespace Jvm.Pilot.@@N@@
open Jvm Jvm.ClassFile Sem Op Lib Jvm.Free Jvm.Stand Jvm.LawKit Jvm.RoadKit Bundle Jvm.Pilot.@@N@@.Jvm.D
theorem pd_0 : parseMethodDescriptor "(I)Lcom/example/ack4/ack4/codec/PacketType;" = some ⟨[.int], some (.object "com/example/ack4/ack4/codec/PacketType")⟩ := by decide +kernel
theorem pd_1 : parseMethodDescriptor "(I)Z" = some ⟨[.int], some .boolean⟩ := by decide +kernel
theorem pd_2 : parseMethodDescriptor "(II)Z" = some ⟨[.int, .int], some .boolean⟩ := by decide +kernel
theorem d2_0 : decode prog_35_method_7_code 0 = .ok (.aload_n 0, 1) := by decide +kernel
theorem d2_1 : decode prog_35_method_7_code 1 = .ok (.getfield 75, 3) := by decide +kernel
theorem d2_4 : decode prog_35_method_7_code 4 = .ok (.iconst (-1), 1) := by decide +kernel
theorem d2_5 : decode prog_35_method_7_code 5 = .ok (.if_icmp .eq 11, 3) := by decide +kernel
theorem d2_8 : decode prog_35_method_7_code 8 = .ok (.aload_n 0, 1) := by decide +kernel
theorem d2_9 : decode prog_35_method_7_code 9 = .ok (.getfield 75, 3) := by decide +kernel
theorem d2_12 : decode prog_35_method_7_code 12 = .ok (.iload_n 1, 1) := by decide +kernel
theorem d2_13 : decode prog_35_method_7_code 13 = .ok (.if_icmp .ne 7, 3) := by decide +kernel
theorem d2_16 : decode prog_35_method_7_code 16 = .ok (.iconst 1, 1) := by decide +kernel
theorem d2_17 : decode prog_35_method_7_code 17 = .ok (.goto 4, 3) := by decide +kernel
theorem d2_20 : decode prog_35_method_7_code 20 = .ok (.iconst 0, 1) := by decide +kernel
theorem d2_21 : decode prog_35_method_7_code 21 = .ok (.ireturn, 1) := by decide +kernel
theorem pn_2 : plainName "com/example/ack4/ack4/codec/PacketType" = true := by first | (simp [plainName, overriddenIn]; done) | decide +kernel
theorem ef_rm2 (m : MethodId) (x0 : Addr) (x1 : Int32) : entryFrame m #[(.ref x0), (.int x1)] 2 = mkF m 0 #[.val (.ref x0), .val (.int x1)] [] := by first | (simp [entryFrame, mkF, argsToLocals, Value.category]; done) | rfl
def f2 (r0 : Addr) (p1 : Int32) (w_r0_flags : Int32) : Int32 := (if w_r0_flags = (-1 : Int32) then (1 : Int32) else (nar .boolean (if w_r0_flags = p1 then (1 : Int32) else (0 : Int32))))
set_option maxRecDepth 65536 in
set_option maxHeartbeats 40000000 in
theorem rm2 (l : Launch) (Z : State) (a0 : Array Value) (hw : ∀ d ∈ tables_1, d.before a0 Z = true) (ws : List Jvm.Cond) (r0 : Addr) (p1 : Int32) (w_r0_flags : Int32) (h0 : Heap) (n0 : Nat) (Z0 : n0 ≤ h0.size) (F_r0_flags : Fld Z h0 r0 "com/example/ack4/ack4/codec/PacketType" "flags" "I" (.int w_r0_flags)) :
    MetFree l (⟨"com/example/ack4/ack4/codec/PacketType", "allowsFlags", "(I)Z"⟩ : MethodName) (head1 (Jvm.Cond.code (⟨"com/example/ack4/ack4/codec/PacketType", "allowsFlags", "(I)Z"⟩ : MethodName) prog_35_method_7_code 2 (some .boolean) :: ws) ({ frames := 0, cells := 0, slots := 0, locals := 0 } : Room)) (fun a U => a = #[(.ref r0), (.int p1)] ∧ Z.Warmed39 U.vm ∧ U.heap = h0) (fun _ _ _ _ _ => True) (fun _ U o U' => ∃ v L, o = .returned v ∧ Qp (.int (f2 r0 p1 w_r0_flags)) h0 n0 v U'.heap L ∧ FrameEnd U o U' L ({ frames := 0, cells := 0, slots := 0, locals := 0 } : Room).cells ({ frames := 0, cells := 0, slots := 0, locals := 0 } : Room).slots) := by
  refine MetFree.of_bodySF (plainFor_of_name pn_2) hisR ?_
  intro p e s m args below meth c s₁ Bd hml0 hP hK
  obtain ⟨rfl, hZ, hh⟩ := hP
  have hx := Bd.exec
  have hby := Bd.bytes
  have hml : c.maxLocals = 2 := hml0
  have hown : s.vm.findClass "com/example/ack4/ack4/codec/PacketType" = some m.cls := findClass_of_methodNamed Bd.named
  have hnm := (name_of_methodNamed Bd.named Bd.method).1
  have hlk : meth.locks = false := BodyLoose.notSynchronized Bd
  have X0 : Stand p l e ({ frames := 0, cells := 0, slots := 0, locals := 0 } : Room) s m #[(.ref r0), (.int p1)] below meth c s₁ [] 0 0 := Stand.of_body Bd
  have e0 : s₁.heap = h0 := by rw [← hh, Bd.state]; rfl
  have N0 := Fr.nil n0
  have K0 : Keep h0 h0 [] := Keep.refl _ _
  show Goes p e below s (Qp (.int (f2 r0 p1 w_r0_flags)) h0 n0) ({ frames := 0, cells := 0, slots := 0, locals := 0 } : Room).cells ({ frames := 0, cells := 0, slots := 0, locals := 0 } : Room).slots (s₁.setTop (entryFrame m #[(.ref r0), (.int p1)] 2))
  rw [ef_rm2]
  show Goes p e below s _ _ _ (s₁.setTop (mkF m 0 #[.val (.ref r0), .val (.int p1)] []))
  refine Goes.go (fun _ k => XS.aloadN X0.here hx rfl (hb hby d2_0) rfl rfl  k) ?_
  show Goes p e below s _ _ _ (s₁.setTop (mkF m 1 #[.val (.ref r0), .val (.int p1)] [(.ref r0)]))
  obtain ⟨T1, X1, e1, st1⟩ := getF X0 hx hZ hown (host := "") (Or.inl (hw _ (List.mem_of_getElem? (i := 13) rfl))) Via.refl e0 F_r0_flags (g := (mkF m 1 #[.val (.ref r0), .val (.int p1)] [(.ref r0)])) rfl rfl (hb hby d2_1)
  refine Goes.go st1 ?_
  show Goes p e below s _ _ _ (T1.setTop (mkF m 4 #[.val (.ref r0), .val (.int p1)] [(.int w_r0_flags)]))
  refine Goes.go (fun _ k => XS.iconst X1.here hx rfl (hb hby d2_4) k) ?_
  show Goes p e below s _ _ _ (T1.setTop (mkF m 5 #[.val (.ref r0), .val (.int p1)] [(.int (-1 : Int32)), (.int w_r0_flags)]))
  by_cases hc5_2 : w_r0_flags = (-1 : Int32)
  · skip
    refine Goes.qi (if_pos hc5_2) ?_
    refine Goes.go (fun _ k => XS.icmpYes X1.here hx rfl (pc0 := 5) (pc' := 16) rfl (hb hby d2_5) rfl (teq hc5_2).1 (by decide) (by decide) k) ?_
    show Goes p e below s _ _ _ (T1.setTop (mkF m 16 #[.val (.ref r0), .val (.int p1)] []))
    refine Goes.go (fun _ k => XS.iconst X1.here hx rfl (hb hby d2_16) k) ?_
    show Goes p e below s _ _ _ (T1.setTop (mkF m 17 #[.val (.ref r0), .val (.int p1)] [(.int (1 : Int32))]))
    refine Goes.go (fun _ k => XS.goto X1.here hx rfl (pc0 := 17) (pc' := 21) rfl (hb hby d2_17) (by decide) (by decide) k) ?_
    show Goes p e below s _ _ _ (T1.setTop (mkF m 21 #[.val (.ref r0), .val (.int p1)] [(.int (1 : Int32))]))
    refine Goes.retN .boolean X1 hx hlk Bd.returns (by simp) (hb hby d2_21) ?_ (by decide) (by decide)
    exact ⟨by rfl, N0, e1⟩
  · skip
    refine Goes.qi (if_neg hc5_2) ?_
    refine Goes.go (fun _ k => XS.icmpNo X1.here hx rfl (hb hby d2_5) rfl (feq hc5_2).1 k) ?_
    show Goes p e below s _ _ _ (T1.setTop (mkF m 8 #[.val (.ref r0), .val (.int p1)] []))
    refine Goes.go (fun _ k => XS.aloadN X1.here hx rfl (hb hby d2_8) rfl rfl  k) ?_
    show Goes p e below s _ _ _ (T1.setTop (mkF m 9 #[.val (.ref r0), .val (.int p1)] [(.ref r0)]))
    obtain ⟨T3, X3, e3, st3⟩ := getF X1 hx hZ hown (host := "") (Or.inl (hw _ (List.mem_of_getElem? (i := 13) rfl))) Via.refl e1 F_r0_flags (g := (mkF m 9 #[.val (.ref r0), .val (.int p1)] [(.ref r0)])) rfl rfl (hb hby d2_9)
    refine Goes.go st3 ?_
    show Goes p e below s _ _ _ (T3.setTop (mkF m 12 #[.val (.ref r0), .val (.int p1)] [(.int w_r0_flags)]))
    refine Goes.go (fun _ k => XS.iloadN X3.here hx rfl (hb hby d2_12) rfl  k) ?_
    show Goes p e below s _ _ _ (T3.setTop (mkF m 13 #[.val (.ref r0), .val (.int p1)] [(.int p1), (.int w_r0_flags)]))
    obtain ⟨z4_s0, hz4_s0⟩ : ∃ z : Int32, z = if w_r0_flags = p1 then (1 : Int32) else (0 : Int32) := ⟨_, rfl⟩
    have sm4 : ∀ t, Steps p.tables e below (T3.setTop (mkF m 21 #[.val (.ref r0), .val (.int p1)] [(.int z4_s0)])) t → Steps p.tables e below (T3.setTop (mkF m 13 #[.val (.ref r0), .val (.int p1)] [(.int p1), (.int w_r0_flags)])) t := by
      intro t k
      by_cases hc13_4 : w_r0_flags = p1
      · have k2 : Steps p.tables e below (T3.setTop (mkF m 21 #[.val (.ref r0), .val (.int p1)] [(.int (1 : Int32))])) t := by simpa only [hz4_s0, if_pos hc13_4] using k
        show Steps p.tables e below (T3.setTop (mkF m 13 #[.val (.ref r0), .val (.int p1)] [(.int p1), (.int w_r0_flags)])) _
        refine XS.icmpNo X3.here hx rfl (hb hby d2_13) rfl (teq hc13_4).2 ?_
        show Steps p.tables e below (T3.setTop (mkF m 16 #[.val (.ref r0), .val (.int p1)] [])) _
        refine XS.iconst X3.here hx rfl (hb hby d2_16) ?_
        show Steps p.tables e below (T3.setTop (mkF m 17 #[.val (.ref r0), .val (.int p1)] [(.int (1 : Int32))])) _
        refine XS.goto X3.here hx rfl (pc0 := 17) (pc' := 21) rfl (hb hby d2_17) (by decide) (by decide) ?_
        exact k2
      · have k2 : Steps p.tables e below (T3.setTop (mkF m 21 #[.val (.ref r0), .val (.int p1)] [(.int (0 : Int32))])) t := by simpa only [hz4_s0, if_neg hc13_4] using k
        show Steps p.tables e below (T3.setTop (mkF m 13 #[.val (.ref r0), .val (.int p1)] [(.int p1), (.int w_r0_flags)])) _
        refine XS.icmpYes X3.here hx rfl (pc0 := 13) (pc' := 20) rfl (hb hby d2_13) rfl (feq hc13_4).2 (by decide) (by decide) ?_
        show Steps p.tables e below (T3.setTop (mkF m 20 #[.val (.ref r0), .val (.int p1)] [])) _
        refine XS.iconst X3.here hx rfl (hb hby d2_20) ?_
        exact k2
    refine Goes.go sm4 ?_
    show Goes p e below s _ _ _ (T3.setTop (mkF m 21 #[.val (.ref r0), .val (.int p1)] [(.int z4_s0)]))
    refine Goes.retN .boolean X3 hx hlk Bd.returns (by simp) (hb hby d2_21) ?_ (by decide) (by decide)
    exact ⟨by subst hz4_s0; rfl, N0, e3⟩
theorem d3_0 : decode method_3_code 0 = .ok (.iload_n 0, 1) := by decide +kernel
theorem d3_1 : decode method_3_code 1 = .ok (.iconst 2, 1) := by decide +kernel
theorem d3_2 : decode method_3_code 2 = .ok (.if_icmp .ne 5, 3) := by decide +kernel
theorem d3_5 : decode method_3_code 5 = .ok (.iconst 1, 1) := by decide +kernel
theorem d3_6 : decode method_3_code 6 = .ok (.ireturn, 1) := by decide +kernel
theorem d3_7 : decode method_3_code 7 = .ok (.iload_n 0, 1) := by decide +kernel
theorem d3_8 : decode method_3_code 8 = .ok (.iconst 5, 1) := by decide +kernel
theorem d3_9 : decode method_3_code 9 = .ok (.if_icmp .eq 15, 3) := by decide +kernel
theorem d3_12 : decode method_3_code 12 = .ok (.iload_n 0, 1) := by decide +kernel
theorem d3_13 : decode method_3_code 13 = .ok (.bipush 7, 2) := by decide +kernel
theorem d3_15 : decode method_3_code 15 = .ok (.if_icmp .eq 9, 3) := by decide +kernel
theorem d3_18 : decode method_3_code 18 = .ok (.iload_n 0, 1) := by decide +kernel
theorem d3_19 : decode method_3_code 19 = .ok (.bipush 9, 2) := by decide +kernel
theorem d3_21 : decode method_3_code 21 = .ok (.if_icmp .ne 14, 3) := by decide +kernel
theorem d3_24 : decode method_3_code 24 = .ok (.iload_n 1, 1) := by decide +kernel
theorem d3_25 : decode method_3_code 25 = .ok (.iconst 2, 1) := by decide +kernel
theorem d3_26 : decode method_3_code 26 = .ok (.if_icmp .ne 7, 3) := by decide +kernel
theorem d3_29 : decode method_3_code 29 = .ok (.iconst 1, 1) := by decide +kernel
theorem d3_30 : decode method_3_code 30 = .ok (.goto 4, 3) := by decide +kernel
theorem d3_33 : decode method_3_code 33 = .ok (.iconst 0, 1) := by decide +kernel
theorem d3_34 : decode method_3_code 34 = .ok (.ireturn, 1) := by decide +kernel
theorem d3_35 : decode method_3_code 35 = .ok (.iload_n 1, 1) := by decide +kernel
theorem d3_36 : decode method_3_code 36 = .ok (.ifCond .ne 7, 3) := by decide +kernel
theorem d3_39 : decode method_3_code 39 = .ok (.iconst 1, 1) := by decide +kernel
theorem d3_40 : decode method_3_code 40 = .ok (.goto 4, 3) := by decide +kernel
theorem d3_43 : decode method_3_code 43 = .ok (.iconst 0, 1) := by decide +kernel
theorem d3_44 : decode method_3_code 44 = .ok (.ireturn, 1) := by decide +kernel
theorem pn_3 : plainName "com/example/ack4/ack4/codec/PacketTypeAllowsFlagsPinLaw" = true := by first | (simp [plainName, overriddenIn]; done) | decide +kernel
theorem ef_rm3 (m : MethodId) (x0 : Int32) (x1 : Int32) : entryFrame m #[(.int x0), (.int x1)] 2 = mkF m 0 #[.val (.int x0), .val (.int x1)] [] := by first | (simp [entryFrame, mkF, argsToLocals, Value.category]; done) | rfl
def f3_24 (p0 : Int32) (p1 : Int32) : Int32 := (nar .boolean (if p1 = (2 : Int32) then (1 : Int32) else (0 : Int32)))
def f3 (p0 : Int32) (p1 : Int32) : Int32 := (if p0 = (2 : Int32) then (1 : Int32) else (if p0 = (5 : Int32) then (f3_24 p0 p1) else (if p0 = (7 : Int32) then (f3_24 p0 p1) else (if p0 = (9 : Int32) then (f3_24 p0 p1) else (nar .boolean (if p1 = (0 : Int32) then (1 : Int32) else (0 : Int32)))))))
set_option maxRecDepth 65536 in
set_option maxHeartbeats 40000000 in
theorem rm3 (l : Launch) (Z : State) (a0 : Array Value) (hw : ∀ d ∈ tables_1, d.before a0 Z = true) (ws : List Jvm.Cond) (p0 : Int32) (p1 : Int32) (h0 : Heap) (n0 : Nat) (Z0 : n0 ≤ h0.size) :
    MetFree l (⟨"com/example/ack4/ack4/codec/PacketTypeAllowsFlagsPinLaw", "expected", "(II)Z"⟩ : MethodName) (head1 (Jvm.Cond.code (⟨"com/example/ack4/ack4/codec/PacketTypeAllowsFlagsPinLaw", "expected", "(II)Z"⟩ : MethodName) method_3_code 2 (some .boolean) :: ws) ({ frames := 0, cells := 0, slots := 0, locals := 0 } : Room)) (fun a U => a = #[(.int p0), (.int p1)] ∧ Z.Warmed39 U.vm ∧ U.heap = h0) (fun _ _ _ _ _ => True) (fun _ U o U' => ∃ v L, o = .returned v ∧ Qp (.int (f3 p0 p1)) h0 n0 v U'.heap L ∧ FrameEnd U o U' L ({ frames := 0, cells := 0, slots := 0, locals := 0 } : Room).cells ({ frames := 0, cells := 0, slots := 0, locals := 0 } : Room).slots) := by
  refine MetFree.of_bodySF (plainFor_of_name pn_3) hisR ?_
  intro p e s m args below meth c s₁ Bd hml0 hP hK
  obtain ⟨rfl, hZ, hh⟩ := hP
  have hx := Bd.exec
  have hby := Bd.bytes
  have hml : c.maxLocals = 2 := hml0
  have hown : s.vm.findClass "com/example/ack4/ack4/codec/PacketTypeAllowsFlagsPinLaw" = some m.cls := findClass_of_methodNamed Bd.named
  have hnm := (name_of_methodNamed Bd.named Bd.method).1
  have hlk : meth.locks = false := BodyLoose.notSynchronized Bd
  have X0 : Stand p l e ({ frames := 0, cells := 0, slots := 0, locals := 0 } : Room) s m #[(.int p0), (.int p1)] below meth c s₁ [] 0 0 := Stand.of_body Bd
  have e0 : s₁.heap = h0 := by rw [← hh, Bd.state]; rfl
  have N0 := Fr.nil n0
  have K0 : Keep h0 h0 [] := Keep.refl _ _
  show Goes p e below s (Qp (.int (f3 p0 p1)) h0 n0) ({ frames := 0, cells := 0, slots := 0, locals := 0 } : Room).cells ({ frames := 0, cells := 0, slots := 0, locals := 0 } : Room).slots (s₁.setTop (entryFrame m #[(.int p0), (.int p1)] 2))
  rw [ef_rm3]
  have J24 : ∀ {TJ : State} {lj : List Loc} (XJ : Stand p l e ({ frames := 0, cells := 0, slots := 0, locals := 0 } : Room) s m #[(.int p0), (.int p1)] below meth c TJ lj 0 0) (eJ : TJ.heap = h0) (NJ : Fr n0 lj), Goes p e below s (Qp (.int (f3_24 p0 p1)) h0 n0) ({ frames := 0, cells := 0, slots := 0, locals := 0 } : Room).cells ({ frames := 0, cells := 0, slots := 0, locals := 0 } : Room).slots (TJ.setTop (mkF m 24 #[.val (.int p0), .val (.int p1)] [])) := by
    intro TJ lj XJ eJ NJ
    show Goes p e below s _ _ _ (TJ.setTop (mkF m 24 #[.val (.int p0), .val (.int p1)] []))
    refine Goes.go (fun _ k => XS.iloadN XJ.here hx rfl (hb hby d3_24) rfl  k) ?_
    show Goes p e below s _ _ _ (TJ.setTop (mkF m 25 #[.val (.int p0), .val (.int p1)] [(.int p1)]))
    refine Goes.go (fun _ k => XS.iconst XJ.here hx rfl (hb hby d3_25) k) ?_
    show Goes p e below s _ _ _ (TJ.setTop (mkF m 26 #[.val (.int p0), .val (.int p1)] [(.int (2 : Int32)), (.int p1)]))
    obtain ⟨z1_s0, hz1_s0⟩ : ∃ z : Int32, z = if p1 = (2 : Int32) then (1 : Int32) else (0 : Int32) := ⟨_, rfl⟩
    have sm1 : ∀ t, Steps p.tables e below (TJ.setTop (mkF m 34 #[.val (.int p0), .val (.int p1)] [(.int z1_s0)])) t → Steps p.tables e below (TJ.setTop (mkF m 26 #[.val (.int p0), .val (.int p1)] [(.int (2 : Int32)), (.int p1)])) t := by
      intro t k
      by_cases hc26_1 : p1 = (2 : Int32)
      · have k2 : Steps p.tables e below (TJ.setTop (mkF m 34 #[.val (.int p0), .val (.int p1)] [(.int (1 : Int32))])) t := by simpa only [hz1_s0, if_pos hc26_1] using k
        show Steps p.tables e below (TJ.setTop (mkF m 26 #[.val (.int p0), .val (.int p1)] [(.int (2 : Int32)), (.int p1)])) _
        refine XS.icmpNo XJ.here hx rfl (hb hby d3_26) rfl (teq hc26_1).2 ?_
        show Steps p.tables e below (TJ.setTop (mkF m 29 #[.val (.int p0), .val (.int p1)] [])) _
        refine XS.iconst XJ.here hx rfl (hb hby d3_29) ?_
        show Steps p.tables e below (TJ.setTop (mkF m 30 #[.val (.int p0), .val (.int p1)] [(.int (1 : Int32))])) _
        refine XS.goto XJ.here hx rfl (pc0 := 30) (pc' := 34) rfl (hb hby d3_30) (by decide) (by decide) ?_
        exact k2
      · have k2 : Steps p.tables e below (TJ.setTop (mkF m 34 #[.val (.int p0), .val (.int p1)] [(.int (0 : Int32))])) t := by simpa only [hz1_s0, if_neg hc26_1] using k
        show Steps p.tables e below (TJ.setTop (mkF m 26 #[.val (.int p0), .val (.int p1)] [(.int (2 : Int32)), (.int p1)])) _
        refine XS.icmpYes XJ.here hx rfl (pc0 := 26) (pc' := 33) rfl (hb hby d3_26) rfl (feq hc26_1).2 (by decide) (by decide) ?_
        show Steps p.tables e below (TJ.setTop (mkF m 33 #[.val (.int p0), .val (.int p1)] [])) _
        refine XS.iconst XJ.here hx rfl (hb hby d3_33) ?_
        exact k2
    refine Goes.go sm1 ?_
    show Goes p e below s _ _ _ (TJ.setTop (mkF m 34 #[.val (.int p0), .val (.int p1)] [(.int z1_s0)]))
    refine Goes.retN .boolean XJ hx hlk Bd.returns (by simp) (hb hby d3_34) ?_ (by decide) (by decide)
    exact ⟨by subst hz1_s0; rfl, NJ, eJ⟩
  show Goes p e below s _ _ _ (s₁.setTop (mkF m 0 #[.val (.int p0), .val (.int p1)] []))
  refine Goes.go (fun _ k => XS.iloadN X0.here hx rfl (hb hby d3_0) rfl  k) ?_
  show Goes p e below s _ _ _ (s₁.setTop (mkF m 1 #[.val (.int p0), .val (.int p1)] [(.int p0)]))
  refine Goes.go (fun _ k => XS.iconst X0.here hx rfl (hb hby d3_1) k) ?_
  show Goes p e below s _ _ _ (s₁.setTop (mkF m 2 #[.val (.int p0), .val (.int p1)] [(.int (2 : Int32)), (.int p0)]))
  by_cases hc2_2 : p0 = (2 : Int32)
  · skip
    refine Goes.qi (if_pos hc2_2) ?_
    refine Goes.go (fun _ k => XS.icmpNo X0.here hx rfl (hb hby d3_2) rfl (teq hc2_2).2 k) ?_
    show Goes p e below s _ _ _ (s₁.setTop (mkF m 5 #[.val (.int p0), .val (.int p1)] []))
    refine Goes.go (fun _ k => XS.iconst X0.here hx rfl (hb hby d3_5) k) ?_
    show Goes p e below s _ _ _ (s₁.setTop (mkF m 6 #[.val (.int p0), .val (.int p1)] [(.int (1 : Int32))]))
    refine Goes.retN .boolean X0 hx hlk Bd.returns (by simp) (hb hby d3_6) ?_ (by decide) (by decide)
    exact ⟨by rfl, N0, e0⟩
  · skip
    refine Goes.qi (if_neg hc2_2) ?_
    refine Goes.go (fun _ k => XS.icmpYes X0.here hx rfl (pc0 := 2) (pc' := 7) rfl (hb hby d3_2) rfl (feq hc2_2).2 (by decide) (by decide) k) ?_
    show Goes p e below s _ _ _ (s₁.setTop (mkF m 7 #[.val (.int p0), .val (.int p1)] []))
    refine Goes.go (fun _ k => XS.iloadN X0.here hx rfl (hb hby d3_7) rfl  k) ?_
    show Goes p e below s _ _ _ (s₁.setTop (mkF m 8 #[.val (.int p0), .val (.int p1)] [(.int p0)]))
    refine Goes.go (fun _ k => XS.iconst X0.here hx rfl (hb hby d3_8) k) ?_
    show Goes p e below s _ _ _ (s₁.setTop (mkF m 9 #[.val (.int p0), .val (.int p1)] [(.int (5 : Int32)), (.int p0)]))
    by_cases hc9_3 : p0 = (5 : Int32)
    · skip
      refine Goes.qi (if_pos hc9_3) ?_
      refine Goes.go (fun _ k => XS.icmpYes X0.here hx rfl (pc0 := 9) (pc' := 24) rfl (hb hby d3_9) rfl (teq hc9_3).1 (by decide) (by decide) k) ?_
      exact J24 X0 e0 N0
    · skip
      refine Goes.qi (if_neg hc9_3) ?_
      refine Goes.go (fun _ k => XS.icmpNo X0.here hx rfl (hb hby d3_9) rfl (feq hc9_3).1 k) ?_
      show Goes p e below s _ _ _ (s₁.setTop (mkF m 12 #[.val (.int p0), .val (.int p1)] []))
      refine Goes.go (fun _ k => XS.iloadN X0.here hx rfl (hb hby d3_12) rfl  k) ?_
      show Goes p e below s _ _ _ (s₁.setTop (mkF m 13 #[.val (.int p0), .val (.int p1)] [(.int p0)]))
      refine Goes.go (fun _ k => XS.bipush X0.here hx rfl (hb hby d3_13) k) ?_
      show Goes p e below s _ _ _ (s₁.setTop (mkF m 15 #[.val (.int p0), .val (.int p1)] [(.int (7 : Int32)), (.int p0)]))
      by_cases hc15_4 : p0 = (7 : Int32)
      · skip
        refine Goes.qi (if_pos hc15_4) ?_
        refine Goes.go (fun _ k => XS.icmpYes X0.here hx rfl (pc0 := 15) (pc' := 24) rfl (hb hby d3_15) rfl (teq hc15_4).1 (by decide) (by decide) k) ?_
        exact J24 X0 e0 N0
      · skip
        refine Goes.qi (if_neg hc15_4) ?_
        refine Goes.go (fun _ k => XS.icmpNo X0.here hx rfl (hb hby d3_15) rfl (feq hc15_4).1 k) ?_
        show Goes p e below s _ _ _ (s₁.setTop (mkF m 18 #[.val (.int p0), .val (.int p1)] []))
        refine Goes.go (fun _ k => XS.iloadN X0.here hx rfl (hb hby d3_18) rfl  k) ?_
        show Goes p e below s _ _ _ (s₁.setTop (mkF m 19 #[.val (.int p0), .val (.int p1)] [(.int p0)]))
        refine Goes.go (fun _ k => XS.bipush X0.here hx rfl (hb hby d3_19) k) ?_
        show Goes p e below s _ _ _ (s₁.setTop (mkF m 21 #[.val (.int p0), .val (.int p1)] [(.int (9 : Int32)), (.int p0)]))
        by_cases hc21_5 : p0 = (9 : Int32)
        · skip
          refine Goes.qi (if_pos hc21_5) ?_
          refine Goes.go (fun _ k => XS.icmpNo X0.here hx rfl (hb hby d3_21) rfl (teq hc21_5).2 k) ?_
          exact J24 X0 e0 N0
        · skip
          refine Goes.qi (if_neg hc21_5) ?_
          refine Goes.go (fun _ k => XS.icmpYes X0.here hx rfl (pc0 := 21) (pc' := 35) rfl (hb hby d3_21) rfl (feq hc21_5).2 (by decide) (by decide) k) ?_
          show Goes p e below s _ _ _ (s₁.setTop (mkF m 35 #[.val (.int p0), .val (.int p1)] []))
          refine Goes.go (fun _ k => XS.iloadN X0.here hx rfl (hb hby d3_35) rfl  k) ?_
          show Goes p e below s _ _ _ (s₁.setTop (mkF m 36 #[.val (.int p0), .val (.int p1)] [(.int p1)]))
          obtain ⟨z6_s0, hz6_s0⟩ : ∃ z : Int32, z = if p1 = (0 : Int32) then (1 : Int32) else (0 : Int32) := ⟨_, rfl⟩
          have sm6 : ∀ t, Steps p.tables e below (s₁.setTop (mkF m 44 #[.val (.int p0), .val (.int p1)] [(.int z6_s0)])) t → Steps p.tables e below (s₁.setTop (mkF m 36 #[.val (.int p0), .val (.int p1)] [(.int p1)])) t := by
            intro t k
            by_cases hc36_6 : p1 = (0 : Int32)
            · have k2 : Steps p.tables e below (s₁.setTop (mkF m 44 #[.val (.int p0), .val (.int p1)] [(.int (1 : Int32))])) t := by simpa only [hz6_s0, if_pos hc36_6] using k
              show Steps p.tables e below (s₁.setTop (mkF m 36 #[.val (.int p0), .val (.int p1)] [(.int p1)])) _
              refine XS.ifNo X0.here hx rfl (hb hby d3_36) rfl ((if0 _ _).trans (teq hc36_6).2) ?_
              show Steps p.tables e below (s₁.setTop (mkF m 39 #[.val (.int p0), .val (.int p1)] [])) _
              refine XS.iconst X0.here hx rfl (hb hby d3_39) ?_
              show Steps p.tables e below (s₁.setTop (mkF m 40 #[.val (.int p0), .val (.int p1)] [(.int (1 : Int32))])) _
              refine XS.goto X0.here hx rfl (pc0 := 40) (pc' := 44) rfl (hb hby d3_40) (by decide) (by decide) ?_
              exact k2
            · have k2 : Steps p.tables e below (s₁.setTop (mkF m 44 #[.val (.int p0), .val (.int p1)] [(.int (0 : Int32))])) t := by simpa only [hz6_s0, if_neg hc36_6] using k
              show Steps p.tables e below (s₁.setTop (mkF m 36 #[.val (.int p0), .val (.int p1)] [(.int p1)])) _
              refine XS.ifYes X0.here hx rfl (pc0 := 36) (pc' := 43) rfl (hb hby d3_36) rfl ((if0 _ _).trans (feq hc36_6).2) (by decide) (by decide) ?_
              show Steps p.tables e below (s₁.setTop (mkF m 43 #[.val (.int p0), .val (.int p1)] [])) _
              refine XS.iconst X0.here hx rfl (hb hby d3_43) ?_
              exact k2
          refine Goes.go sm6 ?_
          show Goes p e below s _ _ _ (s₁.setTop (mkF m 44 #[.val (.int p0), .val (.int p1)] [(.int z6_s0)]))
          refine Goes.retN .boolean X0 hx hlk Bd.returns (by simp) (hb hby d3_44) ?_ (by decide) (by decide)
          exact ⟨by subst hz6_s0; rfl, N0, e0⟩
def own_g (i : Int32) : Int32 := (if i = (0 : Int32) then (0 : Int32) else (if i = (1 : Int32) then (0 : Int32) else (if i = (2 : Int32) then (-1 : Int32) else (if i = (3 : Int32) then (0 : Int32) else (if i = (4 : Int32) then (0 : Int32) else (if i = (5 : Int32) then (2 : Int32) else (if i = (6 : Int32) then (0 : Int32) else (if i = (7 : Int32) then (2 : Int32) else (if i = (8 : Int32) then (0 : Int32) else (if i = (9 : Int32) then (2 : Int32) else (if i = (10 : Int32) then (0 : Int32) else (if i = (11 : Int32) then (0 : Int32) else (if i = (12 : Int32) then (0 : Int32) else (if i = (13 : Int32) then (0 : Int32) else (0 : Int32)))))))))))))))
def Q_pick (Z : State) (p0 : Int32) (h0 : Heap) (n0 : Nat) (v : Option Value) (h : Heap) (L : List Loc) : Prop := ∃ a : Addr, v = some (.ref a) ∧ Fr n0 L ∧ h = h0 ∧ Exa Z h0 a "com/example/ack4/ack4/codec/PacketType" ∧ Fld Z h0 a "com/example/ack4/ack4/codec/PacketType" "flags" "I" (.int (own_g p0))
theorem d1_0 : decode method_2_code 0 = .ok (.iload_n 0, 1) := by decide +kernel
theorem d1_1 : decode method_2_code 1 = .ok (.ifCond .ne 7, 3) := by decide +kernel
theorem d1_4 : decode method_2_code 4 = .ok (.getstatic 7, 3) := by decide +kernel
theorem d1_7 : decode method_2_code 7 = .ok (.areturn, 1) := by decide +kernel
theorem d1_8 : decode method_2_code 8 = .ok (.iload_n 0, 1) := by decide +kernel
theorem d1_9 : decode method_2_code 9 = .ok (.iconst 1, 1) := by decide +kernel
theorem d1_10 : decode method_2_code 10 = .ok (.if_icmp .ne 7, 3) := by decide +kernel
theorem d1_13 : decode method_2_code 13 = .ok (.getstatic 13, 3) := by decide +kernel
theorem d1_16 : decode method_2_code 16 = .ok (.areturn, 1) := by decide +kernel
theorem d1_17 : decode method_2_code 17 = .ok (.iload_n 0, 1) := by decide +kernel
theorem d1_18 : decode method_2_code 18 = .ok (.iconst 2, 1) := by decide +kernel
theorem d1_19 : decode method_2_code 19 = .ok (.if_icmp .ne 7, 3) := by decide +kernel
theorem d1_22 : decode method_2_code 22 = .ok (.getstatic 16, 3) := by decide +kernel
theorem d1_25 : decode method_2_code 25 = .ok (.areturn, 1) := by decide +kernel
theorem d1_26 : decode method_2_code 26 = .ok (.iload_n 0, 1) := by decide +kernel
theorem d1_27 : decode method_2_code 27 = .ok (.iconst 3, 1) := by decide +kernel
theorem d1_28 : decode method_2_code 28 = .ok (.if_icmp .ne 7, 3) := by decide +kernel
theorem d1_31 : decode method_2_code 31 = .ok (.getstatic 19, 3) := by decide +kernel
theorem d1_34 : decode method_2_code 34 = .ok (.areturn, 1) := by decide +kernel
theorem d1_35 : decode method_2_code 35 = .ok (.iload_n 0, 1) := by decide +kernel
theorem d1_36 : decode method_2_code 36 = .ok (.iconst 4, 1) := by decide +kernel
theorem d1_37 : decode method_2_code 37 = .ok (.if_icmp .ne 7, 3) := by decide +kernel
theorem d1_40 : decode method_2_code 40 = .ok (.getstatic 22, 3) := by decide +kernel
theorem d1_43 : decode method_2_code 43 = .ok (.areturn, 1) := by decide +kernel
theorem d1_44 : decode method_2_code 44 = .ok (.iload_n 0, 1) := by decide +kernel
theorem d1_45 : decode method_2_code 45 = .ok (.iconst 5, 1) := by decide +kernel
theorem d1_46 : decode method_2_code 46 = .ok (.if_icmp .ne 7, 3) := by decide +kernel
theorem d1_49 : decode method_2_code 49 = .ok (.getstatic 25, 3) := by decide +kernel
theorem d1_52 : decode method_2_code 52 = .ok (.areturn, 1) := by decide +kernel
theorem d1_53 : decode method_2_code 53 = .ok (.iload_n 0, 1) := by decide +kernel
theorem d1_54 : decode method_2_code 54 = .ok (.bipush 6, 2) := by decide +kernel
theorem d1_56 : decode method_2_code 56 = .ok (.if_icmp .ne 7, 3) := by decide +kernel
theorem d1_59 : decode method_2_code 59 = .ok (.getstatic 28, 3) := by decide +kernel
theorem d1_62 : decode method_2_code 62 = .ok (.areturn, 1) := by decide +kernel
theorem d1_63 : decode method_2_code 63 = .ok (.iload_n 0, 1) := by decide +kernel
theorem d1_64 : decode method_2_code 64 = .ok (.bipush 7, 2) := by decide +kernel
theorem d1_66 : decode method_2_code 66 = .ok (.if_icmp .ne 7, 3) := by decide +kernel
theorem d1_69 : decode method_2_code 69 = .ok (.getstatic 31, 3) := by decide +kernel
theorem d1_72 : decode method_2_code 72 = .ok (.areturn, 1) := by decide +kernel
theorem d1_73 : decode method_2_code 73 = .ok (.iload_n 0, 1) := by decide +kernel
theorem d1_74 : decode method_2_code 74 = .ok (.bipush 8, 2) := by decide +kernel
theorem d1_76 : decode method_2_code 76 = .ok (.if_icmp .ne 7, 3) := by decide +kernel
theorem d1_79 : decode method_2_code 79 = .ok (.getstatic 34, 3) := by decide +kernel
theorem d1_82 : decode method_2_code 82 = .ok (.areturn, 1) := by decide +kernel
theorem d1_83 : decode method_2_code 83 = .ok (.iload_n 0, 1) := by decide +kernel
theorem d1_84 : decode method_2_code 84 = .ok (.bipush 9, 2) := by decide +kernel
theorem d1_86 : decode method_2_code 86 = .ok (.if_icmp .ne 7, 3) := by decide +kernel
theorem d1_89 : decode method_2_code 89 = .ok (.getstatic 37, 3) := by decide +kernel
theorem d1_92 : decode method_2_code 92 = .ok (.areturn, 1) := by decide +kernel
theorem d1_93 : decode method_2_code 93 = .ok (.iload_n 0, 1) := by decide +kernel
theorem d1_94 : decode method_2_code 94 = .ok (.bipush 10, 2) := by decide +kernel
theorem d1_96 : decode method_2_code 96 = .ok (.if_icmp .ne 7, 3) := by decide +kernel
theorem d1_99 : decode method_2_code 99 = .ok (.getstatic 40, 3) := by decide +kernel
theorem d1_102 : decode method_2_code 102 = .ok (.areturn, 1) := by decide +kernel
theorem d1_103 : decode method_2_code 103 = .ok (.iload_n 0, 1) := by decide +kernel
theorem d1_104 : decode method_2_code 104 = .ok (.bipush 11, 2) := by decide +kernel
theorem d1_106 : decode method_2_code 106 = .ok (.if_icmp .ne 7, 3) := by decide +kernel
theorem d1_109 : decode method_2_code 109 = .ok (.getstatic 43, 3) := by decide +kernel
theorem d1_112 : decode method_2_code 112 = .ok (.areturn, 1) := by decide +kernel
theorem d1_113 : decode method_2_code 113 = .ok (.iload_n 0, 1) := by decide +kernel
theorem d1_114 : decode method_2_code 114 = .ok (.bipush 12, 2) := by decide +kernel
theorem d1_116 : decode method_2_code 116 = .ok (.if_icmp .ne 7, 3) := by decide +kernel
theorem d1_119 : decode method_2_code 119 = .ok (.getstatic 46, 3) := by decide +kernel
theorem d1_122 : decode method_2_code 122 = .ok (.areturn, 1) := by decide +kernel
theorem d1_123 : decode method_2_code 123 = .ok (.iload_n 0, 1) := by decide +kernel
theorem d1_124 : decode method_2_code 124 = .ok (.bipush 13, 2) := by decide +kernel
theorem d1_126 : decode method_2_code 126 = .ok (.if_icmp .ne 7, 3) := by decide +kernel
theorem d1_129 : decode method_2_code 129 = .ok (.getstatic 49, 3) := by decide +kernel
theorem d1_132 : decode method_2_code 132 = .ok (.areturn, 1) := by decide +kernel
theorem d1_133 : decode method_2_code 133 = .ok (.getstatic 52, 3) := by decide +kernel
theorem d1_136 : decode method_2_code 136 = .ok (.areturn, 1) := by decide +kernel
theorem pn_1 : plainName "com/example/ack4/ack4/codec/PacketTypeAllowsFlagsPinLaw" = true := by first | (simp [plainName, overriddenIn]; done) | decide +kernel
theorem ef_rm1 (m : MethodId) (x0 : Int32) : entryFrame m #[(.int x0)] 1 = mkF m 0 #[.val (.int x0)] [] := by first | (simp [entryFrame, mkF, argsToLocals, Value.category]; done) | rfl
set_option maxRecDepth 65536 in
set_option maxHeartbeats 40000000 in
theorem rm1 (l : Launch) (Z : State) (a0 : Array Value) (hw : ∀ d ∈ tables_1, d.before a0 Z = true) (ws : List Jvm.Cond) (p0 : Int32) (s0 : Addr) (s1 : Addr) (s2 : Addr) (s3 : Addr) (s4 : Addr) (s5 : Addr) (s6 : Addr) (s7 : Addr) (s8 : Addr) (s9 : Addr) (s10 : Addr) (s11 : Addr) (s12 : Addr) (s13 : Addr) (s14 : Addr) (h0 : Heap) (n0 : Nat) (Z0 : n0 ≤ h0.size) (S0 : Sta Z h0 "com/example/ack4/ack4/codec/PacketType" "CONNECT" "Lcom/example/ack4/ack4/codec/PacketType;" (.ref s0)) (E0 : Exa Z h0 s0 "com/example/ack4/ack4/codec/PacketType") (G0 : Fld Z h0 s0 "com/example/ack4/ack4/codec/PacketType" "flags" "I" (.int (0 : Int32))) (S1 : Sta Z h0 "com/example/ack4/ack4/codec/PacketType" "CONNACK" "Lcom/example/ack4/ack4/codec/PacketType;" (.ref s1)) (E1 : Exa Z h0 s1 "com/example/ack4/ack4/codec/PacketType") (G1 : Fld Z h0 s1 "com/example/ack4/ack4/codec/PacketType" "flags" "I" (.int (0 : Int32))) (S2 : Sta Z h0 "com/example/ack4/ack4/codec/PacketType" "PUBLISH" "Lcom/example/ack4/ack4/codec/PacketType;" (.ref s2)) (E2 : Exa Z h0 s2 "com/example/ack4/ack4/codec/PacketType") (G2 : Fld Z h0 s2 "com/example/ack4/ack4/codec/PacketType" "flags" "I" (.int (-1 : Int32))) (S3 : Sta Z h0 "com/example/ack4/ack4/codec/PacketType" "PUBACK" "Lcom/example/ack4/ack4/codec/PacketType;" (.ref s3)) (E3 : Exa Z h0 s3 "com/example/ack4/ack4/codec/PacketType") (G3 : Fld Z h0 s3 "com/example/ack4/ack4/codec/PacketType" "flags" "I" (.int (0 : Int32))) (S4 : Sta Z h0 "com/example/ack4/ack4/codec/PacketType" "PUBREC" "Lcom/example/ack4/ack4/codec/PacketType;" (.ref s4)) (E4 : Exa Z h0 s4 "com/example/ack4/ack4/codec/PacketType") (G4 : Fld Z h0 s4 "com/example/ack4/ack4/codec/PacketType" "flags" "I" (.int (0 : Int32))) (S5 : Sta Z h0 "com/example/ack4/ack4/codec/PacketType" "PUBREL" "Lcom/example/ack4/ack4/codec/PacketType;" (.ref s5)) (E5 : Exa Z h0 s5 "com/example/ack4/ack4/codec/PacketType") (G5 : Fld Z h0 s5 "com/example/ack4/ack4/codec/PacketType" "flags" "I" (.int (2 : Int32))) (S6 : Sta Z h0 "com/example/ack4/ack4/codec/PacketType" "PUBCOMP" "Lcom/example/ack4/ack4/codec/PacketType;" (.ref s6)) (E6 : Exa Z h0 s6 "com/example/ack4/ack4/codec/PacketType") (G6 : Fld Z h0 s6 "com/example/ack4/ack4/codec/PacketType" "flags" "I" (.int (0 : Int32))) (S7 : Sta Z h0 "com/example/ack4/ack4/codec/PacketType" "SUBSCRIBE" "Lcom/example/ack4/ack4/codec/PacketType;" (.ref s7)) (E7 : Exa Z h0 s7 "com/example/ack4/ack4/codec/PacketType") (G7 : Fld Z h0 s7 "com/example/ack4/ack4/codec/PacketType" "flags" "I" (.int (2 : Int32))) (S8 : Sta Z h0 "com/example/ack4/ack4/codec/PacketType" "SUBACK" "Lcom/example/ack4/ack4/codec/PacketType;" (.ref s8)) (E8 : Exa Z h0 s8 "com/example/ack4/ack4/codec/PacketType") (G8 : Fld Z h0 s8 "com/example/ack4/ack4/codec/PacketType" "flags" "I" (.int (0 : Int32))) (S9 : Sta Z h0 "com/example/ack4/ack4/codec/PacketType" "UNSUBSCRIBE" "Lcom/example/ack4/ack4/codec/PacketType;" (.ref s9)) (E9 : Exa Z h0 s9 "com/example/ack4/ack4/codec/PacketType") (G9 : Fld Z h0 s9 "com/example/ack4/ack4/codec/PacketType" "flags" "I" (.int (2 : Int32))) (S10 : Sta Z h0 "com/example/ack4/ack4/codec/PacketType" "UNSUBACK" "Lcom/example/ack4/ack4/codec/PacketType;" (.ref s10)) (E10 : Exa Z h0 s10 "com/example/ack4/ack4/codec/PacketType") (G10 : Fld Z h0 s10 "com/example/ack4/ack4/codec/PacketType" "flags" "I" (.int (0 : Int32))) (S11 : Sta Z h0 "com/example/ack4/ack4/codec/PacketType" "PINGREQ" "Lcom/example/ack4/ack4/codec/PacketType;" (.ref s11)) (E11 : Exa Z h0 s11 "com/example/ack4/ack4/codec/PacketType") (G11 : Fld Z h0 s11 "com/example/ack4/ack4/codec/PacketType" "flags" "I" (.int (0 : Int32))) (S12 : Sta Z h0 "com/example/ack4/ack4/codec/PacketType" "PINGRESP" "Lcom/example/ack4/ack4/codec/PacketType;" (.ref s12)) (E12 : Exa Z h0 s12 "com/example/ack4/ack4/codec/PacketType") (G12 : Fld Z h0 s12 "com/example/ack4/ack4/codec/PacketType" "flags" "I" (.int (0 : Int32))) (S13 : Sta Z h0 "com/example/ack4/ack4/codec/PacketType" "DISCONNECT" "Lcom/example/ack4/ack4/codec/PacketType;" (.ref s13)) (E13 : Exa Z h0 s13 "com/example/ack4/ack4/codec/PacketType") (G13 : Fld Z h0 s13 "com/example/ack4/ack4/codec/PacketType" "flags" "I" (.int (0 : Int32))) (S14 : Sta Z h0 "com/example/ack4/ack4/codec/PacketType" "AUTH" "Lcom/example/ack4/ack4/codec/PacketType;" (.ref s14)) (E14 : Exa Z h0 s14 "com/example/ack4/ack4/codec/PacketType") (G14 : Fld Z h0 s14 "com/example/ack4/ack4/codec/PacketType" "flags" "I" (.int (0 : Int32))) :
    MetFree l (⟨"com/example/ack4/ack4/codec/PacketTypeAllowsFlagsPinLaw", "pick", "(I)Lcom/example/ack4/ack4/codec/PacketType;"⟩ : MethodName) (head1 (Jvm.Cond.code (⟨"com/example/ack4/ack4/codec/PacketTypeAllowsFlagsPinLaw", "pick", "(I)Lcom/example/ack4/ack4/codec/PacketType;"⟩ : MethodName) method_2_code 1 (some (.object "com/example/ack4/ack4/codec/PacketType")) :: ws) ({ frames := 0, cells := 0, slots := 0, locals := 0 } : Room)) (fun a U => a = #[(.int p0)] ∧ Z.Warmed39 U.vm ∧ U.heap = h0) (fun _ _ _ _ _ => True) (fun _ U o U' => ∃ v L, o = .returned v ∧ Q_pick Z p0 h0 n0 v U'.heap L ∧ FrameEnd U o U' L ({ frames := 0, cells := 0, slots := 0, locals := 0 } : Room).cells ({ frames := 0, cells := 0, slots := 0, locals := 0 } : Room).slots) := by
  refine MetFree.of_bodySF (plainFor_of_name pn_1) hisR ?_
  intro p e s m args below meth c s₁ Bd hml0 hP hK
  obtain ⟨rfl, hZ, hh⟩ := hP
  have hx := Bd.exec
  have hby := Bd.bytes
  have hml : c.maxLocals = 1 := hml0
  have hown : s.vm.findClass "com/example/ack4/ack4/codec/PacketTypeAllowsFlagsPinLaw" = some m.cls := findClass_of_methodNamed Bd.named
  have hnm := (name_of_methodNamed Bd.named Bd.method).1
  have hlk : meth.locks = false := BodyLoose.notSynchronized Bd
  have X0 : Stand p l e ({ frames := 0, cells := 0, slots := 0, locals := 0 } : Room) s m #[(.int p0)] below meth c s₁ [] 0 0 := Stand.of_body Bd
  have e0 : s₁.heap = h0 := by rw [← hh, Bd.state]; rfl
  have N0 := Fr.nil n0
  have K0 : Keep h0 h0 [] := Keep.refl _ _
  show Goes p e below s (Q_pick Z p0 h0 n0) ({ frames := 0, cells := 0, slots := 0, locals := 0 } : Room).cells ({ frames := 0, cells := 0, slots := 0, locals := 0 } : Room).slots (s₁.setTop (entryFrame m #[(.int p0)] 1))
  rw [ef_rm1]
  show Goes p e below s _ _ _ (s₁.setTop (mkF m 0 #[.val (.int p0)] []))
  refine Goes.go (fun _ k => XS.iloadN X0.here hx rfl (hb hby d1_0) rfl  k) ?_
  show Goes p e below s _ _ _ (s₁.setTop (mkF m 1 #[.val (.int p0)] [(.int p0)]))
  by_cases hc1_1 : p0 = (0 : Int32)
  · skip
    refine Goes.go (fun _ k => XS.ifNo X0.here hx rfl (hb hby d1_1) rfl ((if0 _ _).trans (teq hc1_1).2) k) ?_
    show Goes p e below s _ _ _ (s₁.setTop (mkF m 4 #[.val (.int p0)] []))
    obtain ⟨T2, X2, e2, st2⟩ := getS2 X0 hx hZ hown (host := "") (Or.inl (hw _ (List.mem_of_getElem? (i := 5) rfl))) Via.refl e0 S0 (g := (mkF m 4 #[.val (.int p0)] [])) rfl (hb hby d1_4)
    refine Goes.go st2 ?_
    show Goes p e below s _ _ _ (T2.setTop (mkF m 7 #[.val (.int p0)] [(.ref s0)]))
    refine Goes.retA X2 hx hlk rfl Bd.returns rfl (hb hby d1_7) ?_ (by decide) (by decide)
    exact ⟨s0, rfl, N0, e2, E0, by rw [show own_g p0 = (0 : Int32) by simp only [own_g, if_pos hc1_1]]; exact G0⟩
  · skip
    refine Goes.go (fun _ k => XS.ifYes X0.here hx rfl (pc0 := 1) (pc' := 8) rfl (hb hby d1_1) rfl ((if0 _ _).trans (feq hc1_1).2) (by decide) (by decide) k) ?_
    show Goes p e below s _ _ _ (s₁.setTop (mkF m 8 #[.val (.int p0)] []))
    refine Goes.go (fun _ k => XS.iloadN X0.here hx rfl (hb hby d1_8) rfl  k) ?_
    show Goes p e below s _ _ _ (s₁.setTop (mkF m 9 #[.val (.int p0)] [(.int p0)]))
    refine Goes.go (fun _ k => XS.iconst X0.here hx rfl (hb hby d1_9) k) ?_
    show Goes p e below s _ _ _ (s₁.setTop (mkF m 10 #[.val (.int p0)] [(.int (1 : Int32)), (.int p0)]))
    by_cases hc10_3 : p0 = (1 : Int32)
    · skip
      refine Goes.go (fun _ k => XS.icmpNo X0.here hx rfl (hb hby d1_10) rfl (teq hc10_3).2 k) ?_
      show Goes p e below s _ _ _ (s₁.setTop (mkF m 13 #[.val (.int p0)] []))
      obtain ⟨T4, X4, e4, st4⟩ := getS2 X0 hx hZ hown (host := "") (Or.inl (hw _ (List.mem_of_getElem? (i := 18) rfl))) Via.refl e0 S1 (g := (mkF m 13 #[.val (.int p0)] [])) rfl (hb hby d1_13)
      refine Goes.go st4 ?_
      show Goes p e below s _ _ _ (T4.setTop (mkF m 16 #[.val (.int p0)] [(.ref s1)]))
      refine Goes.retA X4 hx hlk rfl Bd.returns rfl (hb hby d1_16) ?_ (by decide) (by decide)
      exact ⟨s1, rfl, N0, e4, E1, by rw [show own_g p0 = (0 : Int32) by simp only [own_g, if_neg hc1_1, if_pos hc10_3]]; exact G1⟩
    · skip
      refine Goes.go (fun _ k => XS.icmpYes X0.here hx rfl (pc0 := 10) (pc' := 17) rfl (hb hby d1_10) rfl (feq hc10_3).2 (by decide) (by decide) k) ?_
      show Goes p e below s _ _ _ (s₁.setTop (mkF m 17 #[.val (.int p0)] []))
      refine Goes.go (fun _ k => XS.iloadN X0.here hx rfl (hb hby d1_17) rfl  k) ?_
      show Goes p e below s _ _ _ (s₁.setTop (mkF m 18 #[.val (.int p0)] [(.int p0)]))
      refine Goes.go (fun _ k => XS.iconst X0.here hx rfl (hb hby d1_18) k) ?_
      show Goes p e below s _ _ _ (s₁.setTop (mkF m 19 #[.val (.int p0)] [(.int (2 : Int32)), (.int p0)]))
      by_cases hc19_5 : p0 = (2 : Int32)
      · skip
        refine Goes.go (fun _ k => XS.icmpNo X0.here hx rfl (hb hby d1_19) rfl (teq hc19_5).2 k) ?_
        show Goes p e below s _ _ _ (s₁.setTop (mkF m 22 #[.val (.int p0)] []))
        obtain ⟨T6, X6, e6, st6⟩ := getS2 X0 hx hZ hown (host := "") (Or.inl (hw _ (List.mem_of_getElem? (i := 34) rfl))) Via.refl e0 S2 (g := (mkF m 22 #[.val (.int p0)] [])) rfl (hb hby d1_22)
        refine Goes.go st6 ?_
        show Goes p e below s _ _ _ (T6.setTop (mkF m 25 #[.val (.int p0)] [(.ref s2)]))
        refine Goes.retA X6 hx hlk rfl Bd.returns rfl (hb hby d1_25) ?_ (by decide) (by decide)
        exact ⟨s2, rfl, N0, e6, E2, by rw [show own_g p0 = (-1 : Int32) by simp only [own_g, if_neg hc1_1, if_neg hc10_3, if_pos hc19_5]]; exact G2⟩
      · skip
        refine Goes.go (fun _ k => XS.icmpYes X0.here hx rfl (pc0 := 19) (pc' := 26) rfl (hb hby d1_19) rfl (feq hc19_5).2 (by decide) (by decide) k) ?_
        show Goes p e below s _ _ _ (s₁.setTop (mkF m 26 #[.val (.int p0)] []))
        refine Goes.go (fun _ k => XS.iloadN X0.here hx rfl (hb hby d1_26) rfl  k) ?_
        show Goes p e below s _ _ _ (s₁.setTop (mkF m 27 #[.val (.int p0)] [(.int p0)]))
        refine Goes.go (fun _ k => XS.iconst X0.here hx rfl (hb hby d1_27) k) ?_
        show Goes p e below s _ _ _ (s₁.setTop (mkF m 28 #[.val (.int p0)] [(.int (3 : Int32)), (.int p0)]))
        by_cases hc28_7 : p0 = (3 : Int32)
        · skip
          refine Goes.go (fun _ k => XS.icmpNo X0.here hx rfl (hb hby d1_28) rfl (teq hc28_7).2 k) ?_
          show Goes p e below s _ _ _ (s₁.setTop (mkF m 31 #[.val (.int p0)] []))
          obtain ⟨T8, X8, e8, st8⟩ := getS2 X0 hx hZ hown (host := "") (Or.inl (hw _ (List.mem_of_getElem? (i := 30) rfl))) Via.refl e0 S3 (g := (mkF m 31 #[.val (.int p0)] [])) rfl (hb hby d1_31)
          refine Goes.go st8 ?_
          show Goes p e below s _ _ _ (T8.setTop (mkF m 34 #[.val (.int p0)] [(.ref s3)]))
          refine Goes.retA X8 hx hlk rfl Bd.returns rfl (hb hby d1_34) ?_ (by decide) (by decide)
          exact ⟨s3, rfl, N0, e8, E3, by rw [show own_g p0 = (0 : Int32) by simp only [own_g, if_neg hc1_1, if_neg hc10_3, if_neg hc19_5, if_pos hc28_7]]; exact G3⟩
        · skip
          refine Goes.go (fun _ k => XS.icmpYes X0.here hx rfl (pc0 := 28) (pc' := 35) rfl (hb hby d1_28) rfl (feq hc28_7).2 (by decide) (by decide) k) ?_
          show Goes p e below s _ _ _ (s₁.setTop (mkF m 35 #[.val (.int p0)] []))
          refine Goes.go (fun _ k => XS.iloadN X0.here hx rfl (hb hby d1_35) rfl  k) ?_
          show Goes p e below s _ _ _ (s₁.setTop (mkF m 36 #[.val (.int p0)] [(.int p0)]))
          refine Goes.go (fun _ k => XS.iconst X0.here hx rfl (hb hby d1_36) k) ?_
          show Goes p e below s _ _ _ (s₁.setTop (mkF m 37 #[.val (.int p0)] [(.int (4 : Int32)), (.int p0)]))
          by_cases hc37_9 : p0 = (4 : Int32)
          · skip
            refine Goes.go (fun _ k => XS.icmpNo X0.here hx rfl (hb hby d1_37) rfl (teq hc37_9).2 k) ?_
            show Goes p e below s _ _ _ (s₁.setTop (mkF m 40 #[.val (.int p0)] []))
            obtain ⟨T10, X10, e10, st10⟩ := getS2 X0 hx hZ hown (host := "") (Or.inl (hw _ (List.mem_of_getElem? (i := 36) rfl))) Via.refl e0 S4 (g := (mkF m 40 #[.val (.int p0)] [])) rfl (hb hby d1_40)
            refine Goes.go st10 ?_
            show Goes p e below s _ _ _ (T10.setTop (mkF m 43 #[.val (.int p0)] [(.ref s4)]))
            refine Goes.retA X10 hx hlk rfl Bd.returns rfl (hb hby d1_43) ?_ (by decide) (by decide)
            exact ⟨s4, rfl, N0, e10, E4, by rw [show own_g p0 = (0 : Int32) by simp only [own_g, if_neg hc1_1, if_neg hc10_3, if_neg hc19_5, if_neg hc28_7, if_pos hc37_9]]; exact G4⟩
          · skip
            refine Goes.go (fun _ k => XS.icmpYes X0.here hx rfl (pc0 := 37) (pc' := 44) rfl (hb hby d1_37) rfl (feq hc37_9).2 (by decide) (by decide) k) ?_
            show Goes p e below s _ _ _ (s₁.setTop (mkF m 44 #[.val (.int p0)] []))
            refine Goes.go (fun _ k => XS.iloadN X0.here hx rfl (hb hby d1_44) rfl  k) ?_
            show Goes p e below s _ _ _ (s₁.setTop (mkF m 45 #[.val (.int p0)] [(.int p0)]))
            refine Goes.go (fun _ k => XS.iconst X0.here hx rfl (hb hby d1_45) k) ?_
            show Goes p e below s _ _ _ (s₁.setTop (mkF m 46 #[.val (.int p0)] [(.int (5 : Int32)), (.int p0)]))
            by_cases hc46_11 : p0 = (5 : Int32)
            · skip
              refine Goes.go (fun _ k => XS.icmpNo X0.here hx rfl (hb hby d1_46) rfl (teq hc46_11).2 k) ?_
              show Goes p e below s _ _ _ (s₁.setTop (mkF m 49 #[.val (.int p0)] []))
              obtain ⟨T12, X12, e12, st12⟩ := getS2 X0 hx hZ hown (host := "") (Or.inl (hw _ (List.mem_of_getElem? (i := 22) rfl))) Via.refl e0 S5 (g := (mkF m 49 #[.val (.int p0)] [])) rfl (hb hby d1_49)
              refine Goes.go st12 ?_
              show Goes p e below s _ _ _ (T12.setTop (mkF m 52 #[.val (.int p0)] [(.ref s5)]))
              refine Goes.retA X12 hx hlk rfl Bd.returns rfl (hb hby d1_52) ?_ (by decide) (by decide)
              exact ⟨s5, rfl, N0, e12, E5, by rw [show own_g p0 = (2 : Int32) by simp only [own_g, if_neg hc1_1, if_neg hc10_3, if_neg hc19_5, if_neg hc28_7, if_neg hc37_9, if_pos hc46_11]]; exact G5⟩
            · skip
              refine Goes.go (fun _ k => XS.icmpYes X0.here hx rfl (pc0 := 46) (pc' := 53) rfl (hb hby d1_46) rfl (feq hc46_11).2 (by decide) (by decide) k) ?_
              show Goes p e below s _ _ _ (s₁.setTop (mkF m 53 #[.val (.int p0)] []))
              refine Goes.go (fun _ k => XS.iloadN X0.here hx rfl (hb hby d1_53) rfl  k) ?_
              show Goes p e below s _ _ _ (s₁.setTop (mkF m 54 #[.val (.int p0)] [(.int p0)]))
              refine Goes.go (fun _ k => XS.bipush X0.here hx rfl (hb hby d1_54) k) ?_
              show Goes p e below s _ _ _ (s₁.setTop (mkF m 56 #[.val (.int p0)] [(.int (6 : Int32)), (.int p0)]))
              by_cases hc56_13 : p0 = (6 : Int32)
              · skip
                refine Goes.go (fun _ k => XS.icmpNo X0.here hx rfl (hb hby d1_56) rfl (teq hc56_13).2 k) ?_
                show Goes p e below s _ _ _ (s₁.setTop (mkF m 59 #[.val (.int p0)] []))
                obtain ⟨T14, X14, e14, st14⟩ := getS2 X0 hx hZ hown (host := "") (Or.inl (hw _ (List.mem_of_getElem? (i := 40) rfl))) Via.refl e0 S6 (g := (mkF m 59 #[.val (.int p0)] [])) rfl (hb hby d1_59)
                refine Goes.go st14 ?_
                show Goes p e below s _ _ _ (T14.setTop (mkF m 62 #[.val (.int p0)] [(.ref s6)]))
                refine Goes.retA X14 hx hlk rfl Bd.returns rfl (hb hby d1_62) ?_ (by decide) (by decide)
                exact ⟨s6, rfl, N0, e14, E6, by rw [show own_g p0 = (0 : Int32) by simp only [own_g, if_neg hc1_1, if_neg hc10_3, if_neg hc19_5, if_neg hc28_7, if_neg hc37_9, if_neg hc46_11, if_pos hc56_13]]; exact G6⟩
              · skip
                refine Goes.go (fun _ k => XS.icmpYes X0.here hx rfl (pc0 := 56) (pc' := 63) rfl (hb hby d1_56) rfl (feq hc56_13).2 (by decide) (by decide) k) ?_
                show Goes p e below s _ _ _ (s₁.setTop (mkF m 63 #[.val (.int p0)] []))
                refine Goes.go (fun _ k => XS.iloadN X0.here hx rfl (hb hby d1_63) rfl  k) ?_
                show Goes p e below s _ _ _ (s₁.setTop (mkF m 64 #[.val (.int p0)] [(.int p0)]))
                refine Goes.go (fun _ k => XS.bipush X0.here hx rfl (hb hby d1_64) k) ?_
                show Goes p e below s _ _ _ (s₁.setTop (mkF m 66 #[.val (.int p0)] [(.int (7 : Int32)), (.int p0)]))
                by_cases hc66_15 : p0 = (7 : Int32)
                · skip
                  refine Goes.go (fun _ k => XS.icmpNo X0.here hx rfl (hb hby d1_66) rfl (teq hc66_15).2 k) ?_
                  show Goes p e below s _ _ _ (s₁.setTop (mkF m 69 #[.val (.int p0)] []))
                  obtain ⟨T16, X16, e16, st16⟩ := getS2 X0 hx hZ hown (host := "") (Or.inl (hw _ (List.mem_of_getElem? (i := 38) rfl))) Via.refl e0 S7 (g := (mkF m 69 #[.val (.int p0)] [])) rfl (hb hby d1_69)
                  refine Goes.go st16 ?_
                  show Goes p e below s _ _ _ (T16.setTop (mkF m 72 #[.val (.int p0)] [(.ref s7)]))
                  refine Goes.retA X16 hx hlk rfl Bd.returns rfl (hb hby d1_72) ?_ (by decide) (by decide)
                  exact ⟨s7, rfl, N0, e16, E7, by rw [show own_g p0 = (2 : Int32) by simp only [own_g, if_neg hc1_1, if_neg hc10_3, if_neg hc19_5, if_neg hc28_7, if_neg hc37_9, if_neg hc46_11, if_neg hc56_13, if_pos hc66_15]]; exact G7⟩
                · skip
                  refine Goes.go (fun _ k => XS.icmpYes X0.here hx rfl (pc0 := 66) (pc' := 73) rfl (hb hby d1_66) rfl (feq hc66_15).2 (by decide) (by decide) k) ?_
                  show Goes p e below s _ _ _ (s₁.setTop (mkF m 73 #[.val (.int p0)] []))
                  refine Goes.go (fun _ k => XS.iloadN X0.here hx rfl (hb hby d1_73) rfl  k) ?_
                  show Goes p e below s _ _ _ (s₁.setTop (mkF m 74 #[.val (.int p0)] [(.int p0)]))
                  refine Goes.go (fun _ k => XS.bipush X0.here hx rfl (hb hby d1_74) k) ?_
                  show Goes p e below s _ _ _ (s₁.setTop (mkF m 76 #[.val (.int p0)] [(.int (8 : Int32)), (.int p0)]))
                  by_cases hc76_17 : p0 = (8 : Int32)
                  · skip
                    refine Goes.go (fun _ k => XS.icmpNo X0.here hx rfl (hb hby d1_76) rfl (teq hc76_17).2 k) ?_
                    show Goes p e below s _ _ _ (s₁.setTop (mkF m 79 #[.val (.int p0)] []))
                    obtain ⟨T18, X18, e18, st18⟩ := getS2 X0 hx hZ hown (host := "") (Or.inl (hw _ (List.mem_of_getElem? (i := 24) rfl))) Via.refl e0 S8 (g := (mkF m 79 #[.val (.int p0)] [])) rfl (hb hby d1_79)
                    refine Goes.go st18 ?_
                    show Goes p e below s _ _ _ (T18.setTop (mkF m 82 #[.val (.int p0)] [(.ref s8)]))
                    refine Goes.retA X18 hx hlk rfl Bd.returns rfl (hb hby d1_82) ?_ (by decide) (by decide)
                    exact ⟨s8, rfl, N0, e18, E8, by rw [show own_g p0 = (0 : Int32) by simp only [own_g, if_neg hc1_1, if_neg hc10_3, if_neg hc19_5, if_neg hc28_7, if_neg hc37_9, if_neg hc46_11, if_neg hc56_13, if_neg hc66_15, if_pos hc76_17]]; exact G8⟩
                  · skip
                    refine Goes.go (fun _ k => XS.icmpYes X0.here hx rfl (pc0 := 76) (pc' := 83) rfl (hb hby d1_76) rfl (feq hc76_17).2 (by decide) (by decide) k) ?_
                    show Goes p e below s _ _ _ (s₁.setTop (mkF m 83 #[.val (.int p0)] []))
                    refine Goes.go (fun _ k => XS.iloadN X0.here hx rfl (hb hby d1_83) rfl  k) ?_
                    show Goes p e below s _ _ _ (s₁.setTop (mkF m 84 #[.val (.int p0)] [(.int p0)]))
                    refine Goes.go (fun _ k => XS.bipush X0.here hx rfl (hb hby d1_84) k) ?_
                    show Goes p e below s _ _ _ (s₁.setTop (mkF m 86 #[.val (.int p0)] [(.int (9 : Int32)), (.int p0)]))
                    by_cases hc86_19 : p0 = (9 : Int32)
                    · skip
                      refine Goes.go (fun _ k => XS.icmpNo X0.here hx rfl (hb hby d1_86) rfl (teq hc86_19).2 k) ?_
                      show Goes p e below s _ _ _ (s₁.setTop (mkF m 89 #[.val (.int p0)] []))
                      obtain ⟨T20, X20, e20, st20⟩ := getS2 X0 hx hZ hown (host := "") (Or.inl (hw _ (List.mem_of_getElem? (i := 26) rfl))) Via.refl e0 S9 (g := (mkF m 89 #[.val (.int p0)] [])) rfl (hb hby d1_89)
                      refine Goes.go st20 ?_
                      show Goes p e below s _ _ _ (T20.setTop (mkF m 92 #[.val (.int p0)] [(.ref s9)]))
                      refine Goes.retA X20 hx hlk rfl Bd.returns rfl (hb hby d1_92) ?_ (by decide) (by decide)
                      exact ⟨s9, rfl, N0, e20, E9, by rw [show own_g p0 = (2 : Int32) by simp only [own_g, if_neg hc1_1, if_neg hc10_3, if_neg hc19_5, if_neg hc28_7, if_neg hc37_9, if_neg hc46_11, if_neg hc56_13, if_neg hc66_15, if_neg hc76_17, if_pos hc86_19]]; exact G9⟩
                    · skip
                      refine Goes.go (fun _ k => XS.icmpYes X0.here hx rfl (pc0 := 86) (pc' := 93) rfl (hb hby d1_86) rfl (feq hc86_19).2 (by decide) (by decide) k) ?_
                      show Goes p e below s _ _ _ (s₁.setTop (mkF m 93 #[.val (.int p0)] []))
                      refine Goes.go (fun _ k => XS.iloadN X0.here hx rfl (hb hby d1_93) rfl  k) ?_
                      show Goes p e below s _ _ _ (s₁.setTop (mkF m 94 #[.val (.int p0)] [(.int p0)]))
                      refine Goes.go (fun _ k => XS.bipush X0.here hx rfl (hb hby d1_94) k) ?_
                      show Goes p e below s _ _ _ (s₁.setTop (mkF m 96 #[.val (.int p0)] [(.int (10 : Int32)), (.int p0)]))
                      by_cases hc96_21 : p0 = (10 : Int32)
                      · skip
                        refine Goes.go (fun _ k => XS.icmpNo X0.here hx rfl (hb hby d1_96) rfl (teq hc96_21).2 k) ?_
                        show Goes p e below s _ _ _ (s₁.setTop (mkF m 99 #[.val (.int p0)] []))
                        obtain ⟨T22, X22, e22, st22⟩ := getS2 X0 hx hZ hown (host := "") (Or.inl (hw _ (List.mem_of_getElem? (i := 28) rfl))) Via.refl e0 S10 (g := (mkF m 99 #[.val (.int p0)] [])) rfl (hb hby d1_99)
                        refine Goes.go st22 ?_
                        show Goes p e below s _ _ _ (T22.setTop (mkF m 102 #[.val (.int p0)] [(.ref s10)]))
                        refine Goes.retA X22 hx hlk rfl Bd.returns rfl (hb hby d1_102) ?_ (by decide) (by decide)
                        exact ⟨s10, rfl, N0, e22, E10, by rw [show own_g p0 = (0 : Int32) by simp only [own_g, if_neg hc1_1, if_neg hc10_3, if_neg hc19_5, if_neg hc28_7, if_neg hc37_9, if_neg hc46_11, if_neg hc56_13, if_neg hc66_15, if_neg hc76_17, if_neg hc86_19, if_pos hc96_21]]; exact G10⟩
                      · skip
                        refine Goes.go (fun _ k => XS.icmpYes X0.here hx rfl (pc0 := 96) (pc' := 103) rfl (hb hby d1_96) rfl (feq hc96_21).2 (by decide) (by decide) k) ?_
                        show Goes p e below s _ _ _ (s₁.setTop (mkF m 103 #[.val (.int p0)] []))
                        refine Goes.go (fun _ k => XS.iloadN X0.here hx rfl (hb hby d1_103) rfl  k) ?_
                        show Goes p e below s _ _ _ (s₁.setTop (mkF m 104 #[.val (.int p0)] [(.int p0)]))
                        refine Goes.go (fun _ k => XS.bipush X0.here hx rfl (hb hby d1_104) k) ?_
                        show Goes p e below s _ _ _ (s₁.setTop (mkF m 106 #[.val (.int p0)] [(.int (11 : Int32)), (.int p0)]))
                        by_cases hc106_23 : p0 = (11 : Int32)
                        · skip
                          refine Goes.go (fun _ k => XS.icmpNo X0.here hx rfl (hb hby d1_106) rfl (teq hc106_23).2 k) ?_
                          show Goes p e below s _ _ _ (s₁.setTop (mkF m 109 #[.val (.int p0)] []))
                          obtain ⟨T24, X24, e24, st24⟩ := getS2 X0 hx hZ hown (host := "") (Or.inl (hw _ (List.mem_of_getElem? (i := 32) rfl))) Via.refl e0 S11 (g := (mkF m 109 #[.val (.int p0)] [])) rfl (hb hby d1_109)
                          refine Goes.go st24 ?_
                          show Goes p e below s _ _ _ (T24.setTop (mkF m 112 #[.val (.int p0)] [(.ref s11)]))
                          refine Goes.retA X24 hx hlk rfl Bd.returns rfl (hb hby d1_112) ?_ (by decide) (by decide)
                          exact ⟨s11, rfl, N0, e24, E11, by rw [show own_g p0 = (0 : Int32) by simp only [own_g, if_neg hc1_1, if_neg hc10_3, if_neg hc19_5, if_neg hc28_7, if_neg hc37_9, if_neg hc46_11, if_neg hc56_13, if_neg hc66_15, if_neg hc76_17, if_neg hc86_19, if_neg hc96_21, if_pos hc106_23]]; exact G11⟩
                        · skip
                          refine Goes.go (fun _ k => XS.icmpYes X0.here hx rfl (pc0 := 106) (pc' := 113) rfl (hb hby d1_106) rfl (feq hc106_23).2 (by decide) (by decide) k) ?_
                          show Goes p e below s _ _ _ (s₁.setTop (mkF m 113 #[.val (.int p0)] []))
                          refine Goes.go (fun _ k => XS.iloadN X0.here hx rfl (hb hby d1_113) rfl  k) ?_
                          show Goes p e below s _ _ _ (s₁.setTop (mkF m 114 #[.val (.int p0)] [(.int p0)]))
                          refine Goes.go (fun _ k => XS.bipush X0.here hx rfl (hb hby d1_114) k) ?_
                          show Goes p e below s _ _ _ (s₁.setTop (mkF m 116 #[.val (.int p0)] [(.int (12 : Int32)), (.int p0)]))
                          by_cases hc116_25 : p0 = (12 : Int32)
                          · skip
                            refine Goes.go (fun _ k => XS.icmpNo X0.here hx rfl (hb hby d1_116) rfl (teq hc116_25).2 k) ?_
                            show Goes p e below s _ _ _ (s₁.setTop (mkF m 119 #[.val (.int p0)] []))
                            obtain ⟨T26, X26, e26, st26⟩ := getS2 X0 hx hZ hown (host := "") (Or.inl (hw _ (List.mem_of_getElem? (i := 44) rfl))) Via.refl e0 S12 (g := (mkF m 119 #[.val (.int p0)] [])) rfl (hb hby d1_119)
                            refine Goes.go st26 ?_
                            show Goes p e below s _ _ _ (T26.setTop (mkF m 122 #[.val (.int p0)] [(.ref s12)]))
                            refine Goes.retA X26 hx hlk rfl Bd.returns rfl (hb hby d1_122) ?_ (by decide) (by decide)
                            exact ⟨s12, rfl, N0, e26, E12, by rw [show own_g p0 = (0 : Int32) by simp only [own_g, if_neg hc1_1, if_neg hc10_3, if_neg hc19_5, if_neg hc28_7, if_neg hc37_9, if_neg hc46_11, if_neg hc56_13, if_neg hc66_15, if_neg hc76_17, if_neg hc86_19, if_neg hc96_21, if_neg hc106_23, if_pos hc116_25]]; exact G12⟩
                          · skip
                            refine Goes.go (fun _ k => XS.icmpYes X0.here hx rfl (pc0 := 116) (pc' := 123) rfl (hb hby d1_116) rfl (feq hc116_25).2 (by decide) (by decide) k) ?_
                            show Goes p e below s _ _ _ (s₁.setTop (mkF m 123 #[.val (.int p0)] []))
                            refine Goes.go (fun _ k => XS.iloadN X0.here hx rfl (hb hby d1_123) rfl  k) ?_
                            show Goes p e below s _ _ _ (s₁.setTop (mkF m 124 #[.val (.int p0)] [(.int p0)]))
                            refine Goes.go (fun _ k => XS.bipush X0.here hx rfl (hb hby d1_124) k) ?_
                            show Goes p e below s _ _ _ (s₁.setTop (mkF m 126 #[.val (.int p0)] [(.int (13 : Int32)), (.int p0)]))
                            by_cases hc126_27 : p0 = (13 : Int32)
                            · skip
                              refine Goes.go (fun _ k => XS.icmpNo X0.here hx rfl (hb hby d1_126) rfl (teq hc126_27).2 k) ?_
                              show Goes p e below s _ _ _ (s₁.setTop (mkF m 129 #[.val (.int p0)] []))
                              obtain ⟨T28, X28, e28, st28⟩ := getS2 X0 hx hZ hown (host := "") (Or.inl (hw _ (List.mem_of_getElem? (i := 42) rfl))) Via.refl e0 S13 (g := (mkF m 129 #[.val (.int p0)] [])) rfl (hb hby d1_129)
                              refine Goes.go st28 ?_
                              show Goes p e below s _ _ _ (T28.setTop (mkF m 132 #[.val (.int p0)] [(.ref s13)]))
                              refine Goes.retA X28 hx hlk rfl Bd.returns rfl (hb hby d1_132) ?_ (by decide) (by decide)
                              exact ⟨s13, rfl, N0, e28, E13, by rw [show own_g p0 = (0 : Int32) by simp only [own_g, if_neg hc1_1, if_neg hc10_3, if_neg hc19_5, if_neg hc28_7, if_neg hc37_9, if_neg hc46_11, if_neg hc56_13, if_neg hc66_15, if_neg hc76_17, if_neg hc86_19, if_neg hc96_21, if_neg hc106_23, if_neg hc116_25, if_pos hc126_27]]; exact G13⟩
                            · skip
                              refine Goes.go (fun _ k => XS.icmpYes X0.here hx rfl (pc0 := 126) (pc' := 133) rfl (hb hby d1_126) rfl (feq hc126_27).2 (by decide) (by decide) k) ?_
                              show Goes p e below s _ _ _ (s₁.setTop (mkF m 133 #[.val (.int p0)] []))
                              obtain ⟨T29, X29, e29, st29⟩ := getS2 X0 hx hZ hown (host := "") (Or.inl (hw _ (List.mem_of_getElem? (i := 20) rfl))) Via.refl e0 S14 (g := (mkF m 133 #[.val (.int p0)] [])) rfl (hb hby d1_133)
                              refine Goes.go st29 ?_
                              show Goes p e below s _ _ _ (T29.setTop (mkF m 136 #[.val (.int p0)] [(.ref s14)]))
                              refine Goes.retA X29 hx hlk rfl Bd.returns rfl (hb hby d1_136) ?_ (by decide) (by decide)
                              exact ⟨s14, rfl, N0, e29, E14, by rw [show own_g p0 = (0 : Int32) by simp only [own_g, if_neg hc1_1, if_neg hc10_3, if_neg hc19_5, if_neg hc28_7, if_neg hc37_9, if_neg hc46_11, if_neg hc56_13, if_neg hc66_15, if_neg hc76_17, if_neg hc86_19, if_neg hc96_21, if_neg hc106_23, if_neg hc116_25, if_neg hc126_27]]; exact G14⟩
theorem own_gs (i : Int32) : own_g i = (if i = (2 : Int32) then (-1 : Int32) else (if i = (5 : Int32) then (2 : Int32) else (if i = (7 : Int32) then (2 : Int32) else (if i = (9 : Int32) then (2 : Int32) else (0 : Int32))))) := by
  by_cases h0 : i = (0 : Int32)
  · subst h0; decide
  by_cases h1 : i = (1 : Int32)
  · subst h1; decide
  by_cases h2 : i = (2 : Int32)
  · subst h2; decide
  by_cases h3 : i = (3 : Int32)
  · subst h3; decide
  by_cases h4 : i = (4 : Int32)
  · subst h4; decide
  by_cases h5 : i = (5 : Int32)
  · subst h5; decide
  by_cases h6 : i = (6 : Int32)
  · subst h6; decide
  by_cases h7 : i = (7 : Int32)
  · subst h7; decide
  by_cases h8 : i = (8 : Int32)
  · subst h8; decide
  by_cases h9 : i = (9 : Int32)
  · subst h9; decide
  by_cases h10 : i = (10 : Int32)
  · subst h10; decide
  by_cases h11 : i = (11 : Int32)
  · subst h11; decide
  by_cases h12 : i = (12 : Int32)
  · subst h12; decide
  by_cases h13 : i = (13 : Int32)
  · subst h13; decide
  unfold own_g
  simp only [h0, h1, h2, h3, h4, h5, h6, h7, h8, h9, h10, h11, h12, h13, if_false]
theorem own_two (f : Int32) : (nar .boolean (if (2 : Int32) = f then (1 : Int32) else (0 : Int32))) = (nar .boolean (if f = (2 : Int32) then (1 : Int32) else (0 : Int32))) := by
  by_cases hf : f = 2
  · subst hf; rfl
  · rw [if_neg hf, if_neg (fun q => hf q.symm)]
theorem own_zero (f : Int32) : (nar .boolean (if (0 : Int32) = f then (1 : Int32) else (0 : Int32))) = (nar .boolean (if f = (0 : Int32) then (1 : Int32) else (0 : Int32))) := by
  by_cases hf : f = 0
  · subst hf; rfl
  · rw [if_neg hf, if_neg (fun q => hf q.symm)]
theorem own_law (r : Addr) (i f : Int32) : f2 r f (own_g i) = f3 i f := by
  rw [own_gs]
  unfold f2 f3 f3_24
  by_cases h2 : i = 2
  · simp only [h2, if_true]
  by_cases h5 : i = 5
  · subst h5; exact own_two f
  by_cases h7 : i = 7
  · subst h7; exact own_two f
  by_cases h9 : i = 9
  · subst h9; exact own_two f
  simp only [h2, h5, h7, h9, if_false]
  exact own_zero f
theorem pn_0 : plainName "com/example/ack4/ack4/codec/PacketTypeAllowsFlagsPinLaw" = true := by first | (simp [plainName, overriddenIn]; done) | decide +kernel
theorem ef_rm0 (m : MethodId) (x0 : Int32) (x1 : Int32) (x2 : Int32) : entryFrame m #[(.int x0), (.int x1), (.int x2)] maxLocals = mkF m 0 #[.val (.int x0), .val (.int x1), .val (.int x2), .unset, .unset, .unset, .unset] [] := by first | (simp [entryFrame, mkF, argsToLocals, Value.category, maxLocals]; done) | rfl
def Q0 (n0 : Nat) (v : Option Value) (h : Heap) (L : List Loc) : Prop := v = some (.int 1) ∧ Fr n0 L
set_option maxRecDepth 65536 in
set_option maxHeartbeats 40000000 in
theorem rm0 (l : Launch) (Z : State) (a0 : Array Value) (hw : ∀ d ∈ tables_1, d.before a0 Z = true) (ws : List Jvm.Cond) (p0 : Int32) (p1 : Int32) (p2 : Int32) (s0 : Addr) (s1 : Addr) (s2 : Addr) (s3 : Addr) (s4 : Addr) (s5 : Addr) (s6 : Addr) (s7 : Addr) (s8 : Addr) (s9 : Addr) (s10 : Addr) (s11 : Addr) (s12 : Addr) (s13 : Addr) (s14 : Addr) (h0 : Heap) (n0 : Nat) (Z0 : n0 ≤ h0.size) (S0 : Sta Z h0 "com/example/ack4/ack4/codec/PacketType" "CONNECT" "Lcom/example/ack4/ack4/codec/PacketType;" (.ref s0)) (E0 : Exa Z h0 s0 "com/example/ack4/ack4/codec/PacketType") (G0 : Fld Z h0 s0 "com/example/ack4/ack4/codec/PacketType" "flags" "I" (.int (0 : Int32))) (S1 : Sta Z h0 "com/example/ack4/ack4/codec/PacketType" "CONNACK" "Lcom/example/ack4/ack4/codec/PacketType;" (.ref s1)) (E1 : Exa Z h0 s1 "com/example/ack4/ack4/codec/PacketType") (G1 : Fld Z h0 s1 "com/example/ack4/ack4/codec/PacketType" "flags" "I" (.int (0 : Int32))) (S2 : Sta Z h0 "com/example/ack4/ack4/codec/PacketType" "PUBLISH" "Lcom/example/ack4/ack4/codec/PacketType;" (.ref s2)) (E2 : Exa Z h0 s2 "com/example/ack4/ack4/codec/PacketType") (G2 : Fld Z h0 s2 "com/example/ack4/ack4/codec/PacketType" "flags" "I" (.int (-1 : Int32))) (S3 : Sta Z h0 "com/example/ack4/ack4/codec/PacketType" "PUBACK" "Lcom/example/ack4/ack4/codec/PacketType;" (.ref s3)) (E3 : Exa Z h0 s3 "com/example/ack4/ack4/codec/PacketType") (G3 : Fld Z h0 s3 "com/example/ack4/ack4/codec/PacketType" "flags" "I" (.int (0 : Int32))) (S4 : Sta Z h0 "com/example/ack4/ack4/codec/PacketType" "PUBREC" "Lcom/example/ack4/ack4/codec/PacketType;" (.ref s4)) (E4 : Exa Z h0 s4 "com/example/ack4/ack4/codec/PacketType") (G4 : Fld Z h0 s4 "com/example/ack4/ack4/codec/PacketType" "flags" "I" (.int (0 : Int32))) (S5 : Sta Z h0 "com/example/ack4/ack4/codec/PacketType" "PUBREL" "Lcom/example/ack4/ack4/codec/PacketType;" (.ref s5)) (E5 : Exa Z h0 s5 "com/example/ack4/ack4/codec/PacketType") (G5 : Fld Z h0 s5 "com/example/ack4/ack4/codec/PacketType" "flags" "I" (.int (2 : Int32))) (S6 : Sta Z h0 "com/example/ack4/ack4/codec/PacketType" "PUBCOMP" "Lcom/example/ack4/ack4/codec/PacketType;" (.ref s6)) (E6 : Exa Z h0 s6 "com/example/ack4/ack4/codec/PacketType") (G6 : Fld Z h0 s6 "com/example/ack4/ack4/codec/PacketType" "flags" "I" (.int (0 : Int32))) (S7 : Sta Z h0 "com/example/ack4/ack4/codec/PacketType" "SUBSCRIBE" "Lcom/example/ack4/ack4/codec/PacketType;" (.ref s7)) (E7 : Exa Z h0 s7 "com/example/ack4/ack4/codec/PacketType") (G7 : Fld Z h0 s7 "com/example/ack4/ack4/codec/PacketType" "flags" "I" (.int (2 : Int32))) (S8 : Sta Z h0 "com/example/ack4/ack4/codec/PacketType" "SUBACK" "Lcom/example/ack4/ack4/codec/PacketType;" (.ref s8)) (E8 : Exa Z h0 s8 "com/example/ack4/ack4/codec/PacketType") (G8 : Fld Z h0 s8 "com/example/ack4/ack4/codec/PacketType" "flags" "I" (.int (0 : Int32))) (S9 : Sta Z h0 "com/example/ack4/ack4/codec/PacketType" "UNSUBSCRIBE" "Lcom/example/ack4/ack4/codec/PacketType;" (.ref s9)) (E9 : Exa Z h0 s9 "com/example/ack4/ack4/codec/PacketType") (G9 : Fld Z h0 s9 "com/example/ack4/ack4/codec/PacketType" "flags" "I" (.int (2 : Int32))) (S10 : Sta Z h0 "com/example/ack4/ack4/codec/PacketType" "UNSUBACK" "Lcom/example/ack4/ack4/codec/PacketType;" (.ref s10)) (E10 : Exa Z h0 s10 "com/example/ack4/ack4/codec/PacketType") (G10 : Fld Z h0 s10 "com/example/ack4/ack4/codec/PacketType" "flags" "I" (.int (0 : Int32))) (S11 : Sta Z h0 "com/example/ack4/ack4/codec/PacketType" "PINGREQ" "Lcom/example/ack4/ack4/codec/PacketType;" (.ref s11)) (E11 : Exa Z h0 s11 "com/example/ack4/ack4/codec/PacketType") (G11 : Fld Z h0 s11 "com/example/ack4/ack4/codec/PacketType" "flags" "I" (.int (0 : Int32))) (S12 : Sta Z h0 "com/example/ack4/ack4/codec/PacketType" "PINGRESP" "Lcom/example/ack4/ack4/codec/PacketType;" (.ref s12)) (E12 : Exa Z h0 s12 "com/example/ack4/ack4/codec/PacketType") (G12 : Fld Z h0 s12 "com/example/ack4/ack4/codec/PacketType" "flags" "I" (.int (0 : Int32))) (S13 : Sta Z h0 "com/example/ack4/ack4/codec/PacketType" "DISCONNECT" "Lcom/example/ack4/ack4/codec/PacketType;" (.ref s13)) (E13 : Exa Z h0 s13 "com/example/ack4/ack4/codec/PacketType") (G13 : Fld Z h0 s13 "com/example/ack4/ack4/codec/PacketType" "flags" "I" (.int (0 : Int32))) (S14 : Sta Z h0 "com/example/ack4/ack4/codec/PacketType" "AUTH" "Lcom/example/ack4/ack4/codec/PacketType;" (.ref s14)) (E14 : Exa Z h0 s14 "com/example/ack4/ack4/codec/PacketType") (G14 : Fld Z h0 s14 "com/example/ack4/ack4/codec/PacketType" "flags" "I" (.int (0 : Int32))) :
    MetFree l x (head1 (Jvm.Cond.code x code maxLocals ret :: ws) room_1) (fun a U => a = #[(.int p0), (.int p1), (.int p2)] ∧ Z.Warmed39 U.vm ∧ U.heap = h0) (fun _ _ _ _ _ => True) (fun _ U o U' => ∃ v L, o = .returned v ∧ Q0 n0 v U'.heap L ∧ FrameEnd U o U' L room_1.cells room_1.slots) := by
  refine MetFree.of_bodySF (plainFor_of_name pn_0) hisR ?_
  intro p e s m args below meth c s₁ Bd hml0 hP hK
  obtain ⟨rfl, hZ, hh⟩ := hP
  have hx := Bd.exec
  have hby := Bd.bytes
  have hml : c.maxLocals = 7 := hml0
  have hown : s.vm.findClass "com/example/ack4/ack4/codec/PacketTypeAllowsFlagsPinLaw" = some m.cls := findClass_of_methodNamed Bd.named
  have hnm := (name_of_methodNamed Bd.named Bd.method).1
  have hlk : meth.locks = false := BodyLoose.notSynchronized Bd
  have X0 : Stand p l e room_1 s m #[(.int p0), (.int p1), (.int p2)] below meth c s₁ [] 0 0 := Stand.of_body Bd
  have e0 : s₁.heap = h0 := by rw [← hh, Bd.state]; rfl
  have N0 := Fr.nil n0
  have K0 : Keep h0 h0 [] := Keep.refl _ _
  show Goes p e below s (Q0 n0) room_1.cells room_1.slots (s₁.setTop (entryFrame m #[(.int p0), (.int p1), (.int p2)] maxLocals))
  rw [ef_rm0]
  show Goes p e below s _ _ _ (s₁.setTop (mkF m 0 #[.val (.int p0), .val (.int p1), .val (.int p2), .unset, .unset, .unset, .unset] []))
  refine Goes.go (fun _ k => XS.iloadN X0.here hx rfl (hb hby at_0) rfl  k) ?_
  show Goes p e below s _ _ _ (s₁.setTop (mkF m 1 #[.val (.int p0), .val (.int p1), .val (.int p2), .unset, .unset, .unset, .unset] [(.int p0)]))
  refine Goes.go (fun _ k => X0.ldcInt hx hown (mvT hZ (hw _ (List.mem_of_getElem? (i := 0) rfl))) (g := (mkF m 1 #[.val (.int p0), .val (.int p1), .val (.int p2), .unset, .unset, .unset, .unset] [(.int p0)])) rfl (hb hby at_1) _ k) ?_
  show Goes p e below s _ _ _ (s₁.setTop (mkF m 3 #[.val (.int p0), .val (.int p1), .val (.int p2), .unset, .unset, .unset, .unset] [(.int (2147483647 : Int32)), (.int p0)]))
  refine Goes.go (fun _ k => XS.iand X0.here hx rfl (hb hby at_3) rfl k) ?_
  show Goes p e below s _ _ _ (s₁.setTop (mkF m 4 #[.val (.int p0), .val (.int p1), .val (.int p2), .unset, .unset, .unset, .unset] [(.int (p0 &&& (2147483647 : Int32)))]))
  refine Goes.go (fun _ k => XS.bipush X0.here hx rfl (hb hby at_4) k) ?_
  show Goes p e below s _ _ _ (s₁.setTop (mkF m 6 #[.val (.int p0), .val (.int p1), .val (.int p2), .unset, .unset, .unset, .unset] [(.int (15 : Int32)), (.int (p0 &&& (2147483647 : Int32)))]))
  refine Goes.go (fun _ k => own_irem X0.here hx rfl (hb hby at_6) rfl (by decide) k) ?_
  show Goes p e below s _ _ _ (s₁.setTop (mkF m 7 #[.val (.int p0), .val (.int p1), .val (.int p2), .unset, .unset, .unset, .unset] [(.int ((p0 &&& (2147483647 : Int32)) % (15 : Int32)))]))
  refine Goes.go (fun _ k => XS.istoreN X0.here hx rfl (hb hby at_7) rfl (l' := #[.val (.int p0), .val (.int p1), .val (.int p2), .val (.int ((p0 &&& (2147483647 : Int32)) % (15 : Int32))), .unset, .unset, .unset]) rfl k) ?_
  show Goes p e below s _ _ _ (s₁.setTop (mkF m 8 #[.val (.int p0), .val (.int p1), .val (.int p2), .val (.int ((p0 &&& (2147483647 : Int32)) % (15 : Int32))), .unset, .unset, .unset] []))
  refine Goes.go (fun _ k => XS.iloadN X0.here hx rfl (hb hby at_8) rfl  k) ?_
  show Goes p e below s _ _ _ (s₁.setTop (mkF m 9 #[.val (.int p0), .val (.int p1), .val (.int p2), .val (.int ((p0 &&& (2147483647 : Int32)) % (15 : Int32))), .unset, .unset, .unset] [(.int p1)]))
  refine Goes.go (fun _ k => XS.iconst X0.here hx rfl (hb hby at_9) k) ?_
  show Goes p e below s _ _ _ (s₁.setTop (mkF m 10 #[.val (.int p0), .val (.int p1), .val (.int p2), .val (.int ((p0 &&& (2147483647 : Int32)) % (15 : Int32))), .unset, .unset, .unset] [(.int (3 : Int32)), (.int p1)]))
  refine Goes.go (fun _ k => XS.iand X0.here hx rfl (hb hby at_10) rfl k) ?_
  show Goes p e below s _ _ _ (s₁.setTop (mkF m 11 #[.val (.int p0), .val (.int p1), .val (.int p2), .val (.int ((p0 &&& (2147483647 : Int32)) % (15 : Int32))), .unset, .unset, .unset] [(.int (p1 &&& (3 : Int32)))]))
  refine Goes.go (fun _ k => XS.istore X0.here hx rfl (hb hby at_11) rfl (l' := #[.val (.int p0), .val (.int p1), .val (.int p2), .val (.int ((p0 &&& (2147483647 : Int32)) % (15 : Int32))), .val (.int (p1 &&& (3 : Int32))), .unset, .unset]) rfl k) ?_
  show Goes p e below s _ _ _ (s₁.setTop (mkF m 13 #[.val (.int p0), .val (.int p1), .val (.int p2), .val (.int ((p0 &&& (2147483647 : Int32)) % (15 : Int32))), .val (.int (p1 &&& (3 : Int32))), .unset, .unset] []))
  refine Goes.go (fun _ k => XS.iload X0.here hx rfl (hb hby at_13) rfl  k) ?_
  show Goes p e below s _ _ _ (s₁.setTop (mkF m 15 #[.val (.int p0), .val (.int p1), .val (.int p2), .val (.int ((p0 &&& (2147483647 : Int32)) % (15 : Int32))), .val (.int (p1 &&& (3 : Int32))), .unset, .unset] [(.int (p1 &&& (3 : Int32)))]))
  obtain ⟨z1_l5, hz1_l5⟩ : ∃ z : Int32, z = if (p1 &&& (3 : Int32)) = (0 : Int32) then p2 else (if (p1 &&& (3 : Int32)) = (1 : Int32) then (p2 &&& (15 : Int32)) else (if (p1 &&& (3 : Int32)) = (2 : Int32) then (0 : Int32) else (2 : Int32))) := ⟨_, rfl⟩
  have sm1 : ∀ t, Steps p.tables e below (s₁.setTop (mkF m 54 #[.val (.int p0), .val (.int p1), .val (.int p2), .val (.int ((p0 &&& (2147483647 : Int32)) % (15 : Int32))), .val (.int (p1 &&& (3 : Int32))), .val (.int z1_l5), .unset] [])) t → Steps p.tables e below (s₁.setTop (mkF m 15 #[.val (.int p0), .val (.int p1), .val (.int p2), .val (.int ((p0 &&& (2147483647 : Int32)) % (15 : Int32))), .val (.int (p1 &&& (3 : Int32))), .unset, .unset] [(.int (p1 &&& (3 : Int32)))])) t := by
    intro t k
    by_cases hc15_1 : (p1 &&& (3 : Int32)) = (0 : Int32)
    · have k2 : Steps p.tables e below (s₁.setTop (mkF m 54 #[.val (.int p0), .val (.int p1), .val (.int p2), .val (.int ((p0 &&& (2147483647 : Int32)) % (15 : Int32))), .val (.int (p1 &&& (3 : Int32))), .val (.int p2), .unset] [])) t := by simpa only [hz1_l5, if_pos hc15_1] using k
      show Steps p.tables e below (s₁.setTop (mkF m 15 #[.val (.int p0), .val (.int p1), .val (.int p2), .val (.int ((p0 &&& (2147483647 : Int32)) % (15 : Int32))), .val (.int (p1 &&& (3 : Int32))), .unset, .unset] [(.int (p1 &&& (3 : Int32)))])) _
      refine XS.ifNo X0.here hx rfl (hb hby at_15) rfl ((if0 _ _).trans (teq hc15_1).2) ?_
      show Steps p.tables e below (s₁.setTop (mkF m 18 #[.val (.int p0), .val (.int p1), .val (.int p2), .val (.int ((p0 &&& (2147483647 : Int32)) % (15 : Int32))), .val (.int (p1 &&& (3 : Int32))), .unset, .unset] [])) _
      refine XS.iloadN X0.here hx rfl (hb hby at_18) rfl  ?_
      show Steps p.tables e below (s₁.setTop (mkF m 19 #[.val (.int p0), .val (.int p1), .val (.int p2), .val (.int ((p0 &&& (2147483647 : Int32)) % (15 : Int32))), .val (.int (p1 &&& (3 : Int32))), .unset, .unset] [(.int p2)])) _
      refine XS.istore X0.here hx rfl (hb hby at_19) rfl (l' := #[.val (.int p0), .val (.int p1), .val (.int p2), .val (.int ((p0 &&& (2147483647 : Int32)) % (15 : Int32))), .val (.int (p1 &&& (3 : Int32))), .val (.int p2), .unset]) rfl ?_
      show Steps p.tables e below (s₁.setTop (mkF m 21 #[.val (.int p0), .val (.int p1), .val (.int p2), .val (.int ((p0 &&& (2147483647 : Int32)) % (15 : Int32))), .val (.int (p1 &&& (3 : Int32))), .val (.int p2), .unset] [])) _
      refine XS.goto X0.here hx rfl (pc0 := 21) (pc' := 54) rfl (hb hby at_21) (by decide) (by decide) ?_
      exact k2
    · have k2 : Steps p.tables e below (s₁.setTop (mkF m 54 #[.val (.int p0), .val (.int p1), .val (.int p2), .val (.int ((p0 &&& (2147483647 : Int32)) % (15 : Int32))), .val (.int (p1 &&& (3 : Int32))), .val (.int (if (p1 &&& (3 : Int32)) = (1 : Int32) then (p2 &&& (15 : Int32)) else (if (p1 &&& (3 : Int32)) = (2 : Int32) then (0 : Int32) else (2 : Int32)))), .unset] [])) t := by simpa only [hz1_l5, if_neg hc15_1] using k
      show Steps p.tables e below (s₁.setTop (mkF m 15 #[.val (.int p0), .val (.int p1), .val (.int p2), .val (.int ((p0 &&& (2147483647 : Int32)) % (15 : Int32))), .val (.int (p1 &&& (3 : Int32))), .unset, .unset] [(.int (p1 &&& (3 : Int32)))])) _
      refine XS.ifYes X0.here hx rfl (pc0 := 15) (pc' := 24) rfl (hb hby at_15) rfl ((if0 _ _).trans (feq hc15_1).2) (by decide) (by decide) ?_
      show Steps p.tables e below (s₁.setTop (mkF m 24 #[.val (.int p0), .val (.int p1), .val (.int p2), .val (.int ((p0 &&& (2147483647 : Int32)) % (15 : Int32))), .val (.int (p1 &&& (3 : Int32))), .unset, .unset] [])) _
      refine XS.iload X0.here hx rfl (hb hby at_24) rfl  ?_
      show Steps p.tables e below (s₁.setTop (mkF m 26 #[.val (.int p0), .val (.int p1), .val (.int p2), .val (.int ((p0 &&& (2147483647 : Int32)) % (15 : Int32))), .val (.int (p1 &&& (3 : Int32))), .unset, .unset] [(.int (p1 &&& (3 : Int32)))])) _
      refine XS.iconst X0.here hx rfl (hb hby at_26) ?_
      show Steps p.tables e below (s₁.setTop (mkF m 27 #[.val (.int p0), .val (.int p1), .val (.int p2), .val (.int ((p0 &&& (2147483647 : Int32)) % (15 : Int32))), .val (.int (p1 &&& (3 : Int32))), .unset, .unset] [(.int (1 : Int32)), (.int (p1 &&& (3 : Int32)))])) _
      have sm2 : ∀ t, Steps p.tables e below (s₁.setTop (mkF m 54 #[.val (.int p0), .val (.int p1), .val (.int p2), .val (.int ((p0 &&& (2147483647 : Int32)) % (15 : Int32))), .val (.int (p1 &&& (3 : Int32))), .val (.int (if (p1 &&& (3 : Int32)) = (1 : Int32) then (p2 &&& (15 : Int32)) else (if (p1 &&& (3 : Int32)) = (2 : Int32) then (0 : Int32) else (2 : Int32)))), .unset] [])) t → Steps p.tables e below (s₁.setTop (mkF m 27 #[.val (.int p0), .val (.int p1), .val (.int p2), .val (.int ((p0 &&& (2147483647 : Int32)) % (15 : Int32))), .val (.int (p1 &&& (3 : Int32))), .unset, .unset] [(.int (1 : Int32)), (.int (p1 &&& (3 : Int32)))])) t := by
        intro t k
        by_cases hc27_2 : (p1 &&& (3 : Int32)) = (1 : Int32)
        · have k2 : Steps p.tables e below (s₁.setTop (mkF m 54 #[.val (.int p0), .val (.int p1), .val (.int p2), .val (.int ((p0 &&& (2147483647 : Int32)) % (15 : Int32))), .val (.int (p1 &&& (3 : Int32))), .val (.int (p2 &&& (15 : Int32))), .unset] [])) t := by simpa only [if_pos hc27_2] using k
          show Steps p.tables e below (s₁.setTop (mkF m 27 #[.val (.int p0), .val (.int p1), .val (.int p2), .val (.int ((p0 &&& (2147483647 : Int32)) % (15 : Int32))), .val (.int (p1 &&& (3 : Int32))), .unset, .unset] [(.int (1 : Int32)), (.int (p1 &&& (3 : Int32)))])) _
          refine XS.icmpNo X0.here hx rfl (hb hby at_27) rfl (teq hc27_2).2 ?_
          show Steps p.tables e below (s₁.setTop (mkF m 30 #[.val (.int p0), .val (.int p1), .val (.int p2), .val (.int ((p0 &&& (2147483647 : Int32)) % (15 : Int32))), .val (.int (p1 &&& (3 : Int32))), .unset, .unset] [])) _
          refine XS.iloadN X0.here hx rfl (hb hby at_30) rfl  ?_
          show Steps p.tables e below (s₁.setTop (mkF m 31 #[.val (.int p0), .val (.int p1), .val (.int p2), .val (.int ((p0 &&& (2147483647 : Int32)) % (15 : Int32))), .val (.int (p1 &&& (3 : Int32))), .unset, .unset] [(.int p2)])) _
          refine XS.bipush X0.here hx rfl (hb hby at_31) ?_
          show Steps p.tables e below (s₁.setTop (mkF m 33 #[.val (.int p0), .val (.int p1), .val (.int p2), .val (.int ((p0 &&& (2147483647 : Int32)) % (15 : Int32))), .val (.int (p1 &&& (3 : Int32))), .unset, .unset] [(.int (15 : Int32)), (.int p2)])) _
          refine XS.iand X0.here hx rfl (hb hby at_33) rfl ?_
          show Steps p.tables e below (s₁.setTop (mkF m 34 #[.val (.int p0), .val (.int p1), .val (.int p2), .val (.int ((p0 &&& (2147483647 : Int32)) % (15 : Int32))), .val (.int (p1 &&& (3 : Int32))), .unset, .unset] [(.int (p2 &&& (15 : Int32)))])) _
          refine XS.istore X0.here hx rfl (hb hby at_34) rfl (l' := #[.val (.int p0), .val (.int p1), .val (.int p2), .val (.int ((p0 &&& (2147483647 : Int32)) % (15 : Int32))), .val (.int (p1 &&& (3 : Int32))), .val (.int (p2 &&& (15 : Int32))), .unset]) rfl ?_
          show Steps p.tables e below (s₁.setTop (mkF m 36 #[.val (.int p0), .val (.int p1), .val (.int p2), .val (.int ((p0 &&& (2147483647 : Int32)) % (15 : Int32))), .val (.int (p1 &&& (3 : Int32))), .val (.int (p2 &&& (15 : Int32))), .unset] [])) _
          refine XS.goto X0.here hx rfl (pc0 := 36) (pc' := 54) rfl (hb hby at_36) (by decide) (by decide) ?_
          exact k2
        · have k2 : Steps p.tables e below (s₁.setTop (mkF m 54 #[.val (.int p0), .val (.int p1), .val (.int p2), .val (.int ((p0 &&& (2147483647 : Int32)) % (15 : Int32))), .val (.int (p1 &&& (3 : Int32))), .val (.int (if (p1 &&& (3 : Int32)) = (2 : Int32) then (0 : Int32) else (2 : Int32))), .unset] [])) t := by simpa only [if_neg hc27_2] using k
          show Steps p.tables e below (s₁.setTop (mkF m 27 #[.val (.int p0), .val (.int p1), .val (.int p2), .val (.int ((p0 &&& (2147483647 : Int32)) % (15 : Int32))), .val (.int (p1 &&& (3 : Int32))), .unset, .unset] [(.int (1 : Int32)), (.int (p1 &&& (3 : Int32)))])) _
          refine XS.icmpYes X0.here hx rfl (pc0 := 27) (pc' := 39) rfl (hb hby at_27) rfl (feq hc27_2).2 (by decide) (by decide) ?_
          show Steps p.tables e below (s₁.setTop (mkF m 39 #[.val (.int p0), .val (.int p1), .val (.int p2), .val (.int ((p0 &&& (2147483647 : Int32)) % (15 : Int32))), .val (.int (p1 &&& (3 : Int32))), .unset, .unset] [])) _
          refine XS.iload X0.here hx rfl (hb hby at_39) rfl  ?_
          show Steps p.tables e below (s₁.setTop (mkF m 41 #[.val (.int p0), .val (.int p1), .val (.int p2), .val (.int ((p0 &&& (2147483647 : Int32)) % (15 : Int32))), .val (.int (p1 &&& (3 : Int32))), .unset, .unset] [(.int (p1 &&& (3 : Int32)))])) _
          refine XS.iconst X0.here hx rfl (hb hby at_41) ?_
          show Steps p.tables e below (s₁.setTop (mkF m 42 #[.val (.int p0), .val (.int p1), .val (.int p2), .val (.int ((p0 &&& (2147483647 : Int32)) % (15 : Int32))), .val (.int (p1 &&& (3 : Int32))), .unset, .unset] [(.int (2 : Int32)), (.int (p1 &&& (3 : Int32)))])) _
          have sm3 : ∀ t, Steps p.tables e below (s₁.setTop (mkF m 54 #[.val (.int p0), .val (.int p1), .val (.int p2), .val (.int ((p0 &&& (2147483647 : Int32)) % (15 : Int32))), .val (.int (p1 &&& (3 : Int32))), .val (.int (if (p1 &&& (3 : Int32)) = (2 : Int32) then (0 : Int32) else (2 : Int32))), .unset] [])) t → Steps p.tables e below (s₁.setTop (mkF m 42 #[.val (.int p0), .val (.int p1), .val (.int p2), .val (.int ((p0 &&& (2147483647 : Int32)) % (15 : Int32))), .val (.int (p1 &&& (3 : Int32))), .unset, .unset] [(.int (2 : Int32)), (.int (p1 &&& (3 : Int32)))])) t := by
            intro t k
            by_cases hc42_3 : (p1 &&& (3 : Int32)) = (2 : Int32)
            · have k2 : Steps p.tables e below (s₁.setTop (mkF m 54 #[.val (.int p0), .val (.int p1), .val (.int p2), .val (.int ((p0 &&& (2147483647 : Int32)) % (15 : Int32))), .val (.int (p1 &&& (3 : Int32))), .val (.int (0 : Int32)), .unset] [])) t := by simpa only [if_pos hc42_3] using k
              show Steps p.tables e below (s₁.setTop (mkF m 42 #[.val (.int p0), .val (.int p1), .val (.int p2), .val (.int ((p0 &&& (2147483647 : Int32)) % (15 : Int32))), .val (.int (p1 &&& (3 : Int32))), .unset, .unset] [(.int (2 : Int32)), (.int (p1 &&& (3 : Int32)))])) _
              refine XS.icmpNo X0.here hx rfl (hb hby at_42) rfl (teq hc42_3).2 ?_
              show Steps p.tables e below (s₁.setTop (mkF m 45 #[.val (.int p0), .val (.int p1), .val (.int p2), .val (.int ((p0 &&& (2147483647 : Int32)) % (15 : Int32))), .val (.int (p1 &&& (3 : Int32))), .unset, .unset] [])) _
              refine XS.iconst X0.here hx rfl (hb hby at_45) ?_
              show Steps p.tables e below (s₁.setTop (mkF m 46 #[.val (.int p0), .val (.int p1), .val (.int p2), .val (.int ((p0 &&& (2147483647 : Int32)) % (15 : Int32))), .val (.int (p1 &&& (3 : Int32))), .unset, .unset] [(.int (0 : Int32))])) _
              refine XS.istore X0.here hx rfl (hb hby at_46) rfl (l' := #[.val (.int p0), .val (.int p1), .val (.int p2), .val (.int ((p0 &&& (2147483647 : Int32)) % (15 : Int32))), .val (.int (p1 &&& (3 : Int32))), .val (.int (0 : Int32)), .unset]) rfl ?_
              show Steps p.tables e below (s₁.setTop (mkF m 48 #[.val (.int p0), .val (.int p1), .val (.int p2), .val (.int ((p0 &&& (2147483647 : Int32)) % (15 : Int32))), .val (.int (p1 &&& (3 : Int32))), .val (.int (0 : Int32)), .unset] [])) _
              refine XS.goto X0.here hx rfl (pc0 := 48) (pc' := 54) rfl (hb hby at_48) (by decide) (by decide) ?_
              exact k2
            · have k2 : Steps p.tables e below (s₁.setTop (mkF m 54 #[.val (.int p0), .val (.int p1), .val (.int p2), .val (.int ((p0 &&& (2147483647 : Int32)) % (15 : Int32))), .val (.int (p1 &&& (3 : Int32))), .val (.int (2 : Int32)), .unset] [])) t := by simpa only [if_neg hc42_3] using k
              show Steps p.tables e below (s₁.setTop (mkF m 42 #[.val (.int p0), .val (.int p1), .val (.int p2), .val (.int ((p0 &&& (2147483647 : Int32)) % (15 : Int32))), .val (.int (p1 &&& (3 : Int32))), .unset, .unset] [(.int (2 : Int32)), (.int (p1 &&& (3 : Int32)))])) _
              refine XS.icmpYes X0.here hx rfl (pc0 := 42) (pc' := 51) rfl (hb hby at_42) rfl (feq hc42_3).2 (by decide) (by decide) ?_
              show Steps p.tables e below (s₁.setTop (mkF m 51 #[.val (.int p0), .val (.int p1), .val (.int p2), .val (.int ((p0 &&& (2147483647 : Int32)) % (15 : Int32))), .val (.int (p1 &&& (3 : Int32))), .unset, .unset] [])) _
              refine XS.iconst X0.here hx rfl (hb hby at_51) ?_
              show Steps p.tables e below (s₁.setTop (mkF m 52 #[.val (.int p0), .val (.int p1), .val (.int p2), .val (.int ((p0 &&& (2147483647 : Int32)) % (15 : Int32))), .val (.int (p1 &&& (3 : Int32))), .unset, .unset] [(.int (2 : Int32))])) _
              refine XS.istore X0.here hx rfl (hb hby at_52) rfl (l' := #[.val (.int p0), .val (.int p1), .val (.int p2), .val (.int ((p0 &&& (2147483647 : Int32)) % (15 : Int32))), .val (.int (p1 &&& (3 : Int32))), .val (.int (2 : Int32)), .unset]) rfl ?_
              exact k2
          refine sm3 _ ?_
          exact k2
      refine sm2 _ ?_
      exact k2
  refine Goes.go sm1 ?_
  show Goes p e below s _ _ _ (s₁.setTop (mkF m 54 #[.val (.int p0), .val (.int p1), .val (.int p2), .val (.int ((p0 &&& (2147483647 : Int32)) % (15 : Int32))), .val (.int (p1 &&& (3 : Int32))), .val (.int z1_l5), .unset] []))
  refine Goes.go (fun _ k => XS.iloadN X0.here hx rfl (hb hby at_54) rfl  k) ?_
  show Goes p e below s _ _ _ (s₁.setTop (mkF m 55 #[.val (.int p0), .val (.int p1), .val (.int p2), .val (.int ((p0 &&& (2147483647 : Int32)) % (15 : Int32))), .val (.int (p1 &&& (3 : Int32))), .val (.int z1_l5), .unset] [(.int ((p0 &&& (2147483647 : Int32)) % (15 : Int32)))]))
  obtain ⟨_, _, ⟨T4, L4, k4, n4⟩, -, X4, ⟨Lc4, hQ4, l4, y4, z4⟩, st4⟩ := Jvm.LawKit.callS X0 hx (y := (⟨"com/example/ack4/ack4/codec/PacketTypeAllowsFlagsPinLaw", "pick", "(I)Lcom/example/ack4/ack4/codec/PacketType;"⟩ : MethodName)) hown (mvT hZ (hw _ (List.mem_of_getElem? (i := 1) rfl))) (mvT hZ (hw _ (List.mem_of_getElem? (i := 2) rfl))) (mvT hZ (hw _ (List.mem_of_getElem? (i := 3) rfl))) (mvT hZ (hw _ (List.mem_of_getElem? (i := 4) rfl))) (by decide) (backOf (W := 0) (rm1 l Z a0 hw [] ((p0 &&& (2147483647 : Int32)) % (15 : Int32)) s0 s1 s2 s3 s4 s5 s6 s7 s8 s9 s10 s11 s12 s13 s14 h0 n0 Z0 S0 E0 G0 S1 E1 G1 S2 E2 G2 S3 E3 G3 S4 E4 G4 S5 E5 G5 S6 E6 G6 S7 E7 G7 S8 E8 G8 S9 E9 G9 S10 E10 G10 S11 E11 G11 S12 E12 G12 S13 E13 G13 S14 E14 G14) hZ (hw _ (List.mem_of_getElem? (i := 4) rfl)) (hw _ (List.mem_of_getElem? (i := 3) rfl)) (by decide) (by decide)) (g := (mkF m 55 #[.val (.int p0), .val (.int p1), .val (.int p2), .val (.int ((p0 &&& (2147483647 : Int32)) % (15 : Int32))), .val (.int (p1 &&& (3 : Int32))), .val (.int z1_l5), .unset] [(.int ((p0 &&& (2147483647 : Int32)) % (15 : Int32)))])) rfl (by rw [hml]; rfl) (argsL := [(.int ((p0 &&& (2147483647 : Int32)) % (15 : Int32)))]) (rest := []) (lenOf pd_0 rfl) rfl (by show 2 * 0 + _ ≤ _; exact Nat.le_of_eq rfl) (hb hby at_55) (fun _ _ => ⟨rfl, e0, (by decide : 0 + 0 ≤ _), (by decide : 0 + 0 ≤ _)⟩)
  dsimp only [Pt.U, Pt.locs, Pt.cells, Pt.slots] at X4 l4 y4 z4 st4 hQ4
  subst l4 y4 z4
  obtain ⟨a4, rfl, N4q, e4, Ea4, Fa4⟩ := hQ4
  have N4 := Fr.app N0 N4q
  refine Goes.go st4 ?_
  show Goes p e below s _ _ _ (T4.setTop (mkF m 58 #[.val (.int p0), .val (.int p1), .val (.int p2), .val (.int ((p0 &&& (2147483647 : Int32)) % (15 : Int32))), .val (.int (p1 &&& (3 : Int32))), .val (.int z1_l5), .unset] [(.ref a4)]))
  refine Goes.go (fun _ k => XS.astore X4.here hx rfl (hb hby at_58) rfl rfl (l' := #[.val (.int p0), .val (.int p1), .val (.int p2), .val (.int ((p0 &&& (2147483647 : Int32)) % (15 : Int32))), .val (.int (p1 &&& (3 : Int32))), .val (.int z1_l5), .val (.ref a4)]) rfl k) ?_
  show Goes p e below s _ _ _ (T4.setTop (mkF m 60 #[.val (.int p0), .val (.int p1), .val (.int p2), .val (.int ((p0 &&& (2147483647 : Int32)) % (15 : Int32))), .val (.int (p1 &&& (3 : Int32))), .val (.int z1_l5), .val (.ref a4)] []))
  refine Goes.go (fun _ k => XS.aload X4.here hx rfl (hb hby at_60) rfl rfl  k) ?_
  show Goes p e below s _ _ _ (T4.setTop (mkF m 62 #[.val (.int p0), .val (.int p1), .val (.int p2), .val (.int ((p0 &&& (2147483647 : Int32)) % (15 : Int32))), .val (.int (p1 &&& (3 : Int32))), .val (.int z1_l5), .val (.ref a4)] [(.ref a4)]))
  refine Goes.go (fun _ k => XS.iload X4.here hx rfl (hb hby at_62) rfl  k) ?_
  show Goes p e below s _ _ _ (T4.setTop (mkF m 64 #[.val (.int p0), .val (.int p1), .val (.int p2), .val (.int ((p0 &&& (2147483647 : Int32)) % (15 : Int32))), .val (.int (p1 &&& (3 : Int32))), .val (.int z1_l5), .val (.ref a4)] [(.int z1_l5), (.ref a4)]))
  obtain ⟨cq5, kq5, q5a, q5b, q5c⟩ := isOf hZ e4 Ea4
  obtain ⟨_, _, ⟨T5, L5, k5, n5⟩, -, X5, ⟨Lc5, hQ5, l5, y5, z5⟩, st5⟩ := X4.virtualBack hx (y := (⟨"com/example/ack4/ack4/codec/PacketType", "allowsFlags", "(I)Z"⟩ : MethodName)) (z := (⟨"com/example/ack4/ack4/codec/PacketType", "allowsFlags", "(I)Z"⟩ : MethodName)) hown (mvT hZ (hw _ (List.mem_of_getElem? (i := 8) rfl))) (mvT hZ (hw _ (List.mem_of_getElem? (i := 9) rfl))) (notFace_of_selects (args := #[]) (mvT hZ (hw _ (List.mem_of_getElem? (i := 11) rfl)))) (mvT hZ (hw _ (List.mem_of_getElem? (i := 11) rfl))) (mvT hZ (hw _ (List.mem_of_getElem? (i := 10) rfl))) (by decide) (backOf (W := 0) (rm2 l Z a0 hw [] a4 z1_l5 (own_g ((p0 &&& (2147483647 : Int32)) % (15 : Int32))) h0 n0 Z0 Fa4) hZ (hw _ (List.mem_of_getElem? (i := 12) rfl)) (hw _ (List.mem_of_getElem? (i := 6) rfl)) (by decide) (by decide)) q5a q5c (g := (mkF m 64 #[.val (.int p0), .val (.int p1), .val (.int p2), .val (.int ((p0 &&& (2147483647 : Int32)) % (15 : Int32))), .val (.int (p1 &&& (3 : Int32))), .val (.int z1_l5), .val (.ref a4)] [(.int z1_l5), (.ref a4)])) rfl (by rw [hml]; rfl) (Steps.refl _) (argsL := [(.int z1_l5)]) (rest := []) (lenOf pd_1 rfl) rfl (by show 2 * 0 + _ ≤ _; exact Nat.le_of_eq rfl) (hb hby at_64) (fun _ _ => ⟨rfl, e4, (by decide : 0 + 0 ≤ _), (by decide : 0 + 0 ≤ _)⟩)
  dsimp only [Pt.U, Pt.locs, Pt.cells, Pt.slots] at X5 l5 y5 z5 st5 hQ5
  subst l5 y5 z5
  obtain ⟨rfl, N5q, e5⟩ := hQ5
  have N5 := Fr.app N4 N5q
  refine Goes.tr st5 ?_
  show Goes p e below s _ _ _ (T5.setTop (mkF m 67 #[.val (.int p0), .val (.int p1), .val (.int p2), .val (.int ((p0 &&& (2147483647 : Int32)) % (15 : Int32))), .val (.int (p1 &&& (3 : Int32))), .val (.int z1_l5), .val (.ref a4)] [(.int (f2 a4 z1_l5 (own_g ((p0 &&& (2147483647 : Int32)) % (15 : Int32)))))]))
  refine Goes.go (fun _ k => XS.iloadN X5.here hx rfl (hb hby at_67) rfl  k) ?_
  show Goes p e below s _ _ _ (T5.setTop (mkF m 68 #[.val (.int p0), .val (.int p1), .val (.int p2), .val (.int ((p0 &&& (2147483647 : Int32)) % (15 : Int32))), .val (.int (p1 &&& (3 : Int32))), .val (.int z1_l5), .val (.ref a4)] [(.int ((p0 &&& (2147483647 : Int32)) % (15 : Int32))), (.int (f2 a4 z1_l5 (own_g ((p0 &&& (2147483647 : Int32)) % (15 : Int32)))))]))
  refine Goes.go (fun _ k => XS.iload X5.here hx rfl (hb hby at_68) rfl  k) ?_
  show Goes p e below s _ _ _ (T5.setTop (mkF m 70 #[.val (.int p0), .val (.int p1), .val (.int p2), .val (.int ((p0 &&& (2147483647 : Int32)) % (15 : Int32))), .val (.int (p1 &&& (3 : Int32))), .val (.int z1_l5), .val (.ref a4)] [(.int z1_l5), (.int ((p0 &&& (2147483647 : Int32)) % (15 : Int32))), (.int (f2 a4 z1_l5 (own_g ((p0 &&& (2147483647 : Int32)) % (15 : Int32)))))]))
  obtain ⟨_, _, ⟨T6, L6, k6, n6⟩, -, X6, ⟨Lc6, hQ6, l6, y6, z6⟩, st6⟩ := Jvm.LawKit.callS X5 hx (y := (⟨"com/example/ack4/ack4/codec/PacketTypeAllowsFlagsPinLaw", "expected", "(II)Z"⟩ : MethodName)) hown (mvT hZ (hw _ (List.mem_of_getElem? (i := 15) rfl))) (mvT hZ (hw _ (List.mem_of_getElem? (i := 16) rfl))) (mvT hZ (hw _ (List.mem_of_getElem? (i := 3) rfl))) (mvT hZ (hw _ (List.mem_of_getElem? (i := 17) rfl))) (by decide) (backOf (W := 1) (rm3 l Z a0 hw [] ((p0 &&& (2147483647 : Int32)) % (15 : Int32)) z1_l5 h0 n0 Z0 ) hZ (hw _ (List.mem_of_getElem? (i := 17) rfl)) (hw _ (List.mem_of_getElem? (i := 3) rfl)) (by decide) (by decide)) (g := (mkF m 70 #[.val (.int p0), .val (.int p1), .val (.int p2), .val (.int ((p0 &&& (2147483647 : Int32)) % (15 : Int32))), .val (.int (p1 &&& (3 : Int32))), .val (.int z1_l5), .val (.ref a4)] [(.int z1_l5), (.int ((p0 &&& (2147483647 : Int32)) % (15 : Int32))), (.int (f2 a4 z1_l5 (own_g ((p0 &&& (2147483647 : Int32)) % (15 : Int32)))))])) rfl (by rw [hml]; rfl) (argsL := [(.int ((p0 &&& (2147483647 : Int32)) % (15 : Int32))), (.int z1_l5)]) (rest := [(.int (f2 a4 z1_l5 (own_g ((p0 &&& (2147483647 : Int32)) % (15 : Int32)))))]) (lenOf pd_2 rfl) rfl (by show 2 * 0 + _ ≤ _; exact Nat.le_of_eq rfl) (hb hby at_70) (fun _ _ => ⟨rfl, e5, (by decide : 0 + 0 ≤ _), (by decide : 0 + 0 ≤ _)⟩)
  dsimp only [Pt.U, Pt.locs, Pt.cells, Pt.slots] at X6 l6 y6 z6 st6 hQ6
  subst l6 y6 z6
  obtain ⟨rfl, N6q, e6⟩ := hQ6
  have N6 := Fr.app N5 N6q
  refine Goes.go st6 ?_
  show Goes p e below s _ _ _ (T6.setTop (mkF m 73 #[.val (.int p0), .val (.int p1), .val (.int p2), .val (.int ((p0 &&& (2147483647 : Int32)) % (15 : Int32))), .val (.int (p1 &&& (3 : Int32))), .val (.int z1_l5), .val (.ref a4)] [(.int (f3 ((p0 &&& (2147483647 : Int32)) % (15 : Int32)) z1_l5)), (.int (f2 a4 z1_l5 (own_g ((p0 &&& (2147483647 : Int32)) % (15 : Int32)))))]))
  have hc73_7 : (f2 a4 z1_l5 (own_g ((p0 &&& (2147483647 : Int32)) % (15 : Int32)))) = (f3 ((p0 &&& (2147483647 : Int32)) % (15 : Int32)) z1_l5) := own_law _ _ _
  refine Goes.go (fun _ k => XS.icmpNo X6.here hx rfl (hb hby at_73) rfl (teq hc73_7).2 k) ?_
  show Goes p e below s _ _ _ (T6.setTop (mkF m 76 #[.val (.int p0), .val (.int p1), .val (.int p2), .val (.int ((p0 &&& (2147483647 : Int32)) % (15 : Int32))), .val (.int (p1 &&& (3 : Int32))), .val (.int z1_l5), .val (.ref a4)] []))
  refine Goes.go (fun _ k => XS.iconst X6.here hx rfl (hb hby at_76) k) ?_
  show Goes p e below s _ _ _ (T6.setTop (mkF m 77 #[.val (.int p0), .val (.int p1), .val (.int p2), .val (.int ((p0 &&& (2147483647 : Int32)) % (15 : Int32))), .val (.int (p1 &&& (3 : Int32))), .val (.int z1_l5), .val (.ref a4)] [(.int (1 : Int32))]))
  refine Goes.go (fun _ k => XS.goto X6.here hx rfl (pc0 := 77) (pc' := 81) rfl (hb hby at_77) (by decide) (by decide) k) ?_
  show Goes p e below s _ _ _ (T6.setTop (mkF m 81 #[.val (.int p0), .val (.int p1), .val (.int p2), .val (.int ((p0 &&& (2147483647 : Int32)) % (15 : Int32))), .val (.int (p1 &&& (3 : Int32))), .val (.int z1_l5), .val (.ref a4)] [(.int (1 : Int32))]))
  refine Goes.retN .boolean X6 hx hlk Bd.returns (by simp) (hb hby at_81) ?_ (by decide) (by decide)
  exact ⟨rfl, N6⟩
set_option maxRecDepth 65536 in
set_option maxHeartbeats 40000000 in
theorem comes_1 {Post : Tables → Env → Array Value → State → Outcome → State → Prop} (hpost : ∀ tb e args s v u, (limb_1_1.after args s (.returned v) u = true ∧ limb_1_2.after args s (.returned v) u = true ∧ True) → FrameEnd s (.returned v) u (Jvm.fieldLocs frame_1_writes args s ++ Jvm.arrayLocs frame_1_arrays args s ++ Jvm.staticLocs frame_1_statics s) 0 0 → Post tb e args s (.returned v) u) :
    ArmFor flags0 classFile x code maxLocals ret World_1 tables_1 room_1 Calls_1 rest_1 Pre_1 Post := by
  intro l hfl _ _ p e ha hc hk s m args below hf hA hF happ hP
  obtain ⟨hcalls, hrest, hpre⟩ := hP
  obtain ⟨-, -, -, hnamed, -, -, -, hat⟩ := (Spec.applies_iff hf).mp happ
  obtain ⟨hg, hn⟩ := and_e (Cond.before_iff.mp (show (Jvm.Cond.and given_1 narrow_1).before args s = true from hpre))
  obtain ⟨gc, gr0⟩ := and_e hg
  obtain ⟨w0, w1, w2, rfl⟩ : ∃ w0 w1 w2 : Value, args = #[w0, w1, w2] := by
    have hs : args.size = 3 := by simpa [Cond.value, given_1] using gc
    obtain ⟨L⟩ := args
    match L, hs with
    | [w0, w1, w2], _ => exact ⟨w0, w1, w2, rfl⟩
  have hw := fun d (hd : d ∈ tables_1) => atoms_spec (ws := Jvm.Cond.code x code maxLocals ret :: tables_1) hat d (List.mem_cons_of_mem _ hd)
  have hfit : Fit s := fun {y c} hc i hi => by
    obtain ⟨ha, rfl⟩ := Array.getElem?_eq_some_iff.mp hc
    have q := List.all_eq_true.mp ((Array.all_eq_true_iff_forall_mem.mp hF) _ (Array.getElem_mem ha)) i (List.mem_range.mpr hi)
    simpa [Array.getElem?_eq_getElem hi] using q
  obtain ⟨ga0, gr1⟩ := and_e gr0
  obtain ⟨i0, ei0⟩ := is_v ga0
  obtain rfl : w0 = (.int i0) := Option.some.inj ei0
  obtain ⟨ga1, gr2⟩ := and_e gr1
  obtain ⟨i1, ei1⟩ := is_v ga1
  obtain rfl : w1 = (.int i1) := Option.some.inj ei1
  obtain ⟨i2, ei2⟩ := is_v gr2
  obtain rfl : w2 = (.int i2) := Option.some.inj ei2
  obtain ⟨x0, y0⟩ := and_e hn
  obtain ⟨u0, v0⟩ := and_e y0
  obtain ⟨s0, t0, S0, E0⟩ := own_sta x0 (hw _ (List.mem_of_getElem? (i := 6) rfl)) (hw _ (List.mem_of_getElem? (i := 7) rfl))
  have G0 := own_stfI t0 u0
  obtain ⟨x1, y1⟩ := and_e v0
  obtain ⟨u1, v1⟩ := and_e y1
  obtain ⟨s1, t1, S1, E1⟩ := own_sta x1 (hw _ (List.mem_of_getElem? (i := 6) rfl)) (hw _ (List.mem_of_getElem? (i := 19) rfl))
  have G1 := own_stfI t1 u1
  obtain ⟨x2, y2⟩ := and_e v1
  obtain ⟨u2, v2⟩ := and_e y2
  obtain ⟨s14, t14, S14, E14⟩ := own_sta x2 (hw _ (List.mem_of_getElem? (i := 6) rfl)) (hw _ (List.mem_of_getElem? (i := 21) rfl))
  have G14 := own_stfI t14 u2
  obtain ⟨x3, y3⟩ := and_e v2
  obtain ⟨u3, v3⟩ := and_e y3
  obtain ⟨s5, t5, S5, E5⟩ := own_sta x3 (hw _ (List.mem_of_getElem? (i := 6) rfl)) (hw _ (List.mem_of_getElem? (i := 23) rfl))
  have G5 := own_stfI t5 u3
  obtain ⟨x4, y4⟩ := and_e v3
  obtain ⟨u4, v4⟩ := and_e y4
  obtain ⟨s8, t8, S8, E8⟩ := own_sta x4 (hw _ (List.mem_of_getElem? (i := 6) rfl)) (hw _ (List.mem_of_getElem? (i := 25) rfl))
  have G8 := own_stfI t8 u4
  obtain ⟨x5, y5⟩ := and_e v4
  obtain ⟨u5, v5⟩ := and_e y5
  obtain ⟨s9, t9, S9, E9⟩ := own_sta x5 (hw _ (List.mem_of_getElem? (i := 6) rfl)) (hw _ (List.mem_of_getElem? (i := 27) rfl))
  have G9 := own_stfI t9 u5
  obtain ⟨x6, y6⟩ := and_e v5
  obtain ⟨u6, v6⟩ := and_e y6
  obtain ⟨s10, t10, S10, E10⟩ := own_sta x6 (hw _ (List.mem_of_getElem? (i := 6) rfl)) (hw _ (List.mem_of_getElem? (i := 29) rfl))
  have G10 := own_stfI t10 u6
  obtain ⟨x7, y7⟩ := and_e v6
  obtain ⟨u7, v7⟩ := and_e y7
  obtain ⟨s3, t3, S3, E3⟩ := own_sta x7 (hw _ (List.mem_of_getElem? (i := 6) rfl)) (hw _ (List.mem_of_getElem? (i := 31) rfl))
  have G3 := own_stfI t3 u7
  obtain ⟨x8, y8⟩ := and_e v7
  obtain ⟨u8, v8⟩ := and_e y8
  obtain ⟨s11, t11, S11, E11⟩ := own_sta x8 (hw _ (List.mem_of_getElem? (i := 6) rfl)) (hw _ (List.mem_of_getElem? (i := 33) rfl))
  have G11 := own_stfI t11 u8
  obtain ⟨x9, y9⟩ := and_e v8
  obtain ⟨u9, v9⟩ := and_e y9
  obtain ⟨s2, t2, S2, E2⟩ := own_sta x9 (hw _ (List.mem_of_getElem? (i := 6) rfl)) (hw _ (List.mem_of_getElem? (i := 35) rfl))
  have G2 := own_stfI t2 u9
  obtain ⟨x10, y10⟩ := and_e v9
  obtain ⟨u10, v10⟩ := and_e y10
  obtain ⟨s4, t4, S4, E4⟩ := own_sta x10 (hw _ (List.mem_of_getElem? (i := 6) rfl)) (hw _ (List.mem_of_getElem? (i := 37) rfl))
  have G4 := own_stfI t4 u10
  obtain ⟨x11, y11⟩ := and_e v10
  obtain ⟨u11, v11⟩ := and_e y11
  obtain ⟨s7, t7, S7, E7⟩ := own_sta x11 (hw _ (List.mem_of_getElem? (i := 6) rfl)) (hw _ (List.mem_of_getElem? (i := 39) rfl))
  have G7 := own_stfI t7 u11
  obtain ⟨x12, y12⟩ := and_e v11
  obtain ⟨u12, v12⟩ := and_e y12
  obtain ⟨s6, t6, S6, E6⟩ := own_sta x12 (hw _ (List.mem_of_getElem? (i := 6) rfl)) (hw _ (List.mem_of_getElem? (i := 41) rfl))
  have G6 := own_stfI t6 u12
  obtain ⟨x13, y13⟩ := and_e v12
  obtain ⟨u13, v13⟩ := and_e y13
  obtain ⟨s13, t13, S13, E13⟩ := own_sta x13 (hw _ (List.mem_of_getElem? (i := 6) rfl)) (hw _ (List.mem_of_getElem? (i := 43) rfl))
  have G13 := own_stfI t13 u13
  obtain ⟨x14, y14⟩ := and_e v13
  obtain ⟨s12, t12, S12, E12⟩ := own_sta x14 (hw _ (List.mem_of_getElem? (i := 6) rfl)) (hw _ (List.mem_of_getElem? (i := 45) rfl))
  have G12 := own_stfI t12 y14
  obtain ⟨n, o, h1, h2, h3, _, L, rfl, ⟨rfl, N⟩, hq⟩ := rm0 l s _ hw tables_1 i0 i1 i2 s0 s1 s2 s3 s4 s5 s6 s7 s8 s9 s10 s11 s12 s13 s14 s.heap s.heap.size (Nat.le_refl _) S0 E0 G0 S1 E1 G1 S2 E2 G2 S3 E3 G3 S4 E4 G4 S5 E5 G5 S6 E6 G6 S7 E7 G7 S8 E8 G8 S9 E9 G9 S10 E10 G10 S11 E11 G11 S12 E12 G12 S13 E13 G13 S14 E14 G14 p e ha hc hk s m _ below hf ((Spec.applies_iff_loose hf).mp happ).1 ⟨rfl, State.Warmed39.refl s, rfl⟩ trivial
  refine ⟨n, _, h1, h2, h3, hpost _ _ _ _ _ _ ⟨Cond.after_iff.mpr rfl, Cond.after_iff.mpr (eq_i res_at (Term.int_eval (1)) rfl), trivial⟩ ⟨hq.1, hq.2.1, (hq.2.2.sift fun y hy => Or.inr (N y hy)).mono (by decide) (by decide)⟩⟩
theorem main_1_1 : Claimed_1_1 := comes_1 fun _ _ _ _ _ _ h hF => ⟨h.1, hF⟩
theorem main_1_2 : Claimed_1_2 := comes_1 fun _ _ _ _ _ _ h hF => ⟨h.2.1, hF⟩
end Jvm.Pilot.@@N@@
namespace Jvm.Pilot.@@N@@
open Jvm Jvm.ClassFile Sem Op Lib Jvm.Free Jvm.Stand Jvm.Pilot.@@N@@.Jvm.D
/-! MADE BY PROGRAM (witnessworld.py) out of the Statement's table words and the real class files: 12 classes; the members and pool entries that the words name. The judged class is class 1, her method 3. -/
namespace start1
open Jvm.ClassFile
def u (s : String) : CpInfo := .utf8 (stringToUtf16 s)
/-- a pool by its gaps: so many unusable entries, then the entry; so many at the end -/
def gap : Nat → List CpInfo → List CpInfo
  | 0, r => r
  | n + 1, r => .unusable :: gap n r
def poolList (es : List (Nat × CpInfo)) (last : Nat) : List CpInfo := es.foldr (fun e r => gap e.1 (e.2 :: r)) (gap last [])
def pool (es : List (Nat × CpInfo)) (last : Nat) : Array CpInfo := ⟨poolList es last⟩
def fileOf (pool : Array CpInfo) (this : Nat) (attrs : Array Attribute := #[]) (ms : Array MethodInfo := #[]) (fl : Nat := 33) (sup : Nat := 0) (ifs : Array Nat := #[]) (fds : Array FieldInfo := #[]) : ClassFile where
  minorVersion := 0
  majorVersion := 65
  constantPool := pool
  accessFlags := fl
  thisClass := this
  superClass := sup
  interfaces := ifs
  fields := fds
  methods := ms
  attributes := attrs
def plain (name : String) (sup : Option ClassId) : Class where
  name := name
  kind := .ordinary
  loader := none
  accessFlags := 33
  super := sup
  interfaces := #[]
  cf := none
  fields := #[]
  methods := #[]
  instanceTypes := #[]
  staticTypes := #[]
  resolved := #[]
  callSites := []
  init := .initialized
  statics := none
  mirror := none

def pool0 : Array CpInfo := pool [(5, u "<init>"), (0, u "()V"), (1, .class_ 10), (1, u "java/lang/Object")] 113

def k0m0 : Method := { name := "<init>", desc := "()V", sig := { parameters := [], returnType := none }, accessFlags := 1, code := none }
/-- java/lang/Object -/
def k0 : Class := { plain "java/lang/Object" none with
  accessFlags := 33
  interfaces := #[]
  cf := some (fileOf pool0 8 #[] #[{ accessFlags := 1, nameIndex := 5, descriptorIndex := 6, attributes := #[] }] 33 0 #[] #[])
  fields := #[]
  methods := #[k0m0]
  instanceTypes := #[]
  staticTypes := #[]
  resolved := Array.replicate 124 none
  statics := none }

def pool1 : Array CpInfo := pool [(2, .class_ 4), (1, u "java/lang/Object"), (0, u "<init>"), (0, u "()V"), (0, .fieldref 8 9), (0, .class_ 10), (0, .nameAndType 11 12), (0, u "com/example/ack4/ack4/codec/PacketType"), (0, u "CONNECT"), (0, u "Lcom/example/ack4/ack4/codec/PacketType;"), (0, .fieldref 8 14), (0, .nameAndType 15 12), (0, u "CONNACK"), (0, .fieldref 8 17), (0, .nameAndType 18 12), (0, u "PUBLISH"), (0, .fieldref 8 20), (0, .nameAndType 21 12), (0, u "PUBACK"), (0, .fieldref 8 23), (0, .nameAndType 24 12), (0, u "PUBREC"), (0, .fieldref 8 26), (0, .nameAndType 27 12), (0, u "PUBREL"), (0, .fieldref 8 29), (0, .nameAndType 30 12), (0, u "PUBCOMP"), (0, .fieldref 8 32), (0, .nameAndType 33 12), (0, u "SUBSCRIBE"), (0, .fieldref 8 35), (0, .nameAndType 36 12), (0, u "SUBACK"), (0, .fieldref 8 38), (0, .nameAndType 39 12), (0, u "UNSUBSCRIBE"), (0, .fieldref 8 41), (0, .nameAndType 42 12), (0, u "UNSUBACK"), (0, .fieldref 8 44), (0, .nameAndType 45 12), (0, u "PINGREQ"), (0, .fieldref 8 47), (0, .nameAndType 48 12), (0, u "PINGRESP"), (0, .fieldref 8 50), (0, .nameAndType 51 12), (0, u "DISCONNECT"), (0, .fieldref 8 53), (0, .nameAndType 54 12), (0, u "AUTH"), (0, .integer 2147483647), (0, .methodref 57 58), (0, .class_ 59), (0, .nameAndType 60 61), (0, u "com/example/ack4/ack4/codec/PacketTypeAllowsFlagsPinLaw"), (0, u "pick"), (0, u "(I)Lcom/example/ack4/ack4/codec/PacketType;"), (0, .methodref 8 63), (0, .nameAndType 64 65), (0, u "allowsFlags"), (0, u "(I)Z"), (0, .methodref 57 67), (0, .nameAndType 68 69), (0, u "expected"), (0, u "(II)Z"), (3, u "law"), (0, u "(III)Z")] 2

def k1m0 : Method := { name := "<init>", desc := "()V", sig := { parameters := [], returnType := none }, accessFlags := 1, code := none }
def k1c1 : Code := { maxStack := 2, maxLocals := 1, code := method_2_code, exceptionTable := #[], attributes := #[] }
def k1m1 : Method := { name := "pick", desc := "(I)Lcom/example/ack4/ack4/codec/PacketType;", sig := { parameters := [.int], returnType := some (.object "com/example/ack4/ack4/codec/PacketType") }, accessFlags := 10, code := some k1c1 }
def k1c2 : Code := { maxStack := 2, maxLocals := 2, code := method_3_code, exceptionTable := #[], attributes := #[] }
def k1m2 : Method := { name := "expected", desc := "(II)Z", sig := { parameters := [.int, .int], returnType := some .boolean }, accessFlags := 10, code := some k1c2 }
def k1c3 : Code := { maxStack := 3, maxLocals := 7, code := code, exceptionTable := #[], attributes := #[] }
def k1m3 : Method := { name := "law", desc := "(III)Z", sig := { parameters := [.int, .int, .int], returnType := some .boolean }, accessFlags := 9, code := some k1c3 }
/-- com/example/ack4/ack4/codec/PacketTypeAllowsFlagsPinLaw -/
def k1 : Class := { plain "com/example/ack4/ack4/codec/PacketTypeAllowsFlagsPinLaw" (some 0) with
  accessFlags := 49
  interfaces := #[]
  cf := some (fileOf pool1 57 #[] #[{ accessFlags := 1, nameIndex := 5, descriptorIndex := 6, attributes := #[] }, { accessFlags := 10, nameIndex := 60, descriptorIndex := 61, attributes := #[] }, { accessFlags := 10, nameIndex := 68, descriptorIndex := 69, attributes := #[] }, { accessFlags := 9, nameIndex := 73, descriptorIndex := 74, attributes := #[] }] 49 2 #[] #[])
  fields := #[]
  methods := #[k1m0, k1m1, k1m2, k1m3]
  instanceTypes := #[]
  staticTypes := #[]
  resolved := Array.replicate 77 none
  statics := none }

def pool2 : Array CpInfo := pool [(1, .class_ 2), (0, u "java/lang/constant/Constable"), (0, .class_ 4), (0, u "java/lang/Object")] 6

/-- java/lang/constant/Constable -/
def k2 : Class := { plain "java/lang/constant/Constable" (some 0) with
  accessFlags := 1537
  interfaces := #[]
  cf := some (fileOf pool2 1 #[] #[] 1537 3 #[] #[])
  fields := #[]
  methods := #[]
  instanceTypes := #[]
  staticTypes := #[]
  resolved := Array.replicate 11 none
  statics := none }

def pool3 : Array CpInfo := pool [(1, .class_ 2), (0, u "java/lang/Comparable"), (0, .class_ 4), (0, u "java/lang/Object")] 7

/-- java/lang/Comparable -/
def k3 : Class := { plain "java/lang/Comparable" (some 0) with
  accessFlags := 1537
  interfaces := #[]
  cf := some (fileOf pool3 1 #[] #[] 1537 3 #[] #[])
  fields := #[]
  methods := #[]
  instanceTypes := #[]
  staticTypes := #[]
  resolved := Array.replicate 12 none
  statics := none }

def pool4 : Array CpInfo := pool [(1, .class_ 2), (0, u "java/io/Serializable"), (0, .class_ 4), (0, u "java/lang/Object")] 2

/-- java/io/Serializable -/
def k4 : Class := { plain "java/io/Serializable" (some 0) with
  accessFlags := 1537
  interfaces := #[]
  cf := some (fileOf pool4 1 #[] #[] 1537 3 #[] #[])
  fields := #[]
  methods := #[]
  instanceTypes := #[]
  staticTypes := #[]
  resolved := Array.replicate 7 none
  statics := none }

def pool5 : Array CpInfo := pool [(2, .class_ 4), (1, u "java/lang/Enum"), (0, u "name"), (0, u "Ljava/lang/String;"), (2, u "ordinal"), (0, u "I"), (1, .class_ 14), (1, u "java/lang/Object"), (4, u "hash"), (86, .class_ 108), (1, u "java/lang/Enum$EnumDesc"), (2, .class_ 112), (0, u "java/lang/constant/Constable"), (0, .class_ 114), (0, u "java/lang/Comparable"), (0, .class_ 116), (0, u "java/io/Serializable")] 87

/-- java/lang/Enum -/
def k5 : Class := { plain "java/lang/Enum" (some 0) with
  accessFlags := 1057
  interfaces := #[2, 3, 4]
  cf := some (fileOf pool5 2 #[.nestMembers #[106]] #[] 1057 12 #[111, 113, 115] #[{ accessFlags := 18, nameIndex := 5, descriptorIndex := 6, attributes := #[] }, { accessFlags := 18, nameIndex := 9, descriptorIndex := 10, attributes := #[] }, { accessFlags := 2, nameIndex := 19, descriptorIndex := 10, attributes := #[] }])
  fields := #[{ name := "name", type := (.object "java/lang/String"), accessFlags := 18, slot := 0, constantValue := 0 }, { name := "ordinal", type := .int, accessFlags := 18, slot := 1, constantValue := 0 }, { name := "hash", type := .int, accessFlags := 2, slot := 2, constantValue := 0 }]
  methods := #[]
  instanceTypes := #[(.object "java/lang/String"), .int, .int]
  staticTypes := #[]
  resolved := Array.replicate 204 none
  statics := none }

def pool6 : Array CpInfo := pool [(1, .class_ 2), (0, u "com/example/ack4/ack4/codec/PacketType"), (2, u "CONNECT"), (0, u "Lcom/example/ack4/ack4/codec/PacketType;"), (2, u "CONNACK"), (2, u "PUBLISH"), (2, u "PUBACK"), (2, u "PUBREC"), (2, u "PUBREL"), (2, u "PUBCOMP"), (2, u "SUBSCRIBE"), (2, u "SUBACK"), (2, u "UNSUBSCRIBE"), (2, u "UNSUBACK"), (2, u "PINGREQ"), (2, u "PINGRESP"), (2, u "DISCONNECT"), (2, u "AUTH"), (2, u "$VALUES"), (0, u "[Lcom/example/ack4/ack4/codec/PacketType;"), (6, .class_ 61), (1, u "java/lang/Enum"), (11, u "value"), (0, u "I"), (0, .fieldref 1 76), (0, .nameAndType 77 74), (0, u "flags"), (2, u "BY_VALUE"), (45, u "ANY_FLAGS"), (13, u "allowsFlags"), (0, u "(I)Z")] 20

def k6c0 : Code := { maxStack := 2, maxLocals := 2, code := prog_35_method_7_code, exceptionTable := #[], attributes := #[] }
def k6m0 : Method := { name := "allowsFlags", desc := "(I)Z", sig := { parameters := [.int], returnType := some .boolean }, accessFlags := 1, code := some k6c0 }
/-- com/example/ack4/ack4/codec/PacketType -/
def k6 : Class := { plain "com/example/ack4/ack4/codec/PacketType" (some 5) with
  accessFlags := 16433
  interfaces := #[]
  cf := some (fileOf pool6 1 #[] #[{ accessFlags := 1, nameIndex := 140, descriptorIndex := 141, attributes := #[] }] 16433 59 #[] #[{ accessFlags := 16409, nameIndex := 5, descriptorIndex := 6, attributes := #[] }, { accessFlags := 16409, nameIndex := 9, descriptorIndex := 6, attributes := #[] }, { accessFlags := 16409, nameIndex := 12, descriptorIndex := 6, attributes := #[] }, { accessFlags := 16409, nameIndex := 15, descriptorIndex := 6, attributes := #[] }, { accessFlags := 16409, nameIndex := 18, descriptorIndex := 6, attributes := #[] }, { accessFlags := 16409, nameIndex := 21, descriptorIndex := 6, attributes := #[] }, { accessFlags := 16409, nameIndex := 24, descriptorIndex := 6, attributes := #[] }, { accessFlags := 16409, nameIndex := 27, descriptorIndex := 6, attributes := #[] }, { accessFlags := 16409, nameIndex := 30, descriptorIndex := 6, attributes := #[] }, { accessFlags := 16409, nameIndex := 33, descriptorIndex := 6, attributes := #[] }, { accessFlags := 16409, nameIndex := 36, descriptorIndex := 6, attributes := #[] }, { accessFlags := 16409, nameIndex := 39, descriptorIndex := 6, attributes := #[] }, { accessFlags := 16409, nameIndex := 42, descriptorIndex := 6, attributes := #[] }, { accessFlags := 16409, nameIndex := 45, descriptorIndex := 6, attributes := #[] }, { accessFlags := 16409, nameIndex := 48, descriptorIndex := 6, attributes := #[] }, { accessFlags := 26, nameIndex := 126, descriptorIndex := 74, attributes := #[] }, { accessFlags := 26, nameIndex := 80, descriptorIndex := 52, attributes := #[] }, { accessFlags := 18, nameIndex := 73, descriptorIndex := 74, attributes := #[] }, { accessFlags := 18, nameIndex := 77, descriptorIndex := 74, attributes := #[] }, { accessFlags := 4122, nameIndex := 51, descriptorIndex := 52, attributes := #[] }])
  fields := #[{ name := "CONNECT", type := (.object "com/example/ack4/ack4/codec/PacketType"), accessFlags := 16409, slot := 0, constantValue := 0 }, { name := "CONNACK", type := (.object "com/example/ack4/ack4/codec/PacketType"), accessFlags := 16409, slot := 1, constantValue := 0 }, { name := "PUBLISH", type := (.object "com/example/ack4/ack4/codec/PacketType"), accessFlags := 16409, slot := 2, constantValue := 0 }, { name := "PUBACK", type := (.object "com/example/ack4/ack4/codec/PacketType"), accessFlags := 16409, slot := 3, constantValue := 0 }, { name := "PUBREC", type := (.object "com/example/ack4/ack4/codec/PacketType"), accessFlags := 16409, slot := 4, constantValue := 0 }, { name := "PUBREL", type := (.object "com/example/ack4/ack4/codec/PacketType"), accessFlags := 16409, slot := 5, constantValue := 0 }, { name := "PUBCOMP", type := (.object "com/example/ack4/ack4/codec/PacketType"), accessFlags := 16409, slot := 6, constantValue := 0 }, { name := "SUBSCRIBE", type := (.object "com/example/ack4/ack4/codec/PacketType"), accessFlags := 16409, slot := 7, constantValue := 0 }, { name := "SUBACK", type := (.object "com/example/ack4/ack4/codec/PacketType"), accessFlags := 16409, slot := 8, constantValue := 0 }, { name := "UNSUBSCRIBE", type := (.object "com/example/ack4/ack4/codec/PacketType"), accessFlags := 16409, slot := 9, constantValue := 0 }, { name := "UNSUBACK", type := (.object "com/example/ack4/ack4/codec/PacketType"), accessFlags := 16409, slot := 10, constantValue := 0 }, { name := "PINGREQ", type := (.object "com/example/ack4/ack4/codec/PacketType"), accessFlags := 16409, slot := 11, constantValue := 0 }, { name := "PINGRESP", type := (.object "com/example/ack4/ack4/codec/PacketType"), accessFlags := 16409, slot := 12, constantValue := 0 }, { name := "DISCONNECT", type := (.object "com/example/ack4/ack4/codec/PacketType"), accessFlags := 16409, slot := 13, constantValue := 0 }, { name := "AUTH", type := (.object "com/example/ack4/ack4/codec/PacketType"), accessFlags := 16409, slot := 14, constantValue := 0 }, { name := "ANY_FLAGS", type := .int, accessFlags := 26, slot := 15, constantValue := 0 }, { name := "BY_VALUE", type := (.array (.object "com/example/ack4/ack4/codec/PacketType")), accessFlags := 26, slot := 16, constantValue := 0 }, { name := "value", type := .int, accessFlags := 18, slot := 3, constantValue := 0 }, { name := "flags", type := .int, accessFlags := 18, slot := 4, constantValue := 0 }, { name := "$VALUES", type := (.array (.object "com/example/ack4/ack4/codec/PacketType")), accessFlags := 4122, slot := 17, constantValue := 0 }]
  methods := #[k6m0]
  instanceTypes := #[(.object "java/lang/String"), .int, .int, .int, .int]
  staticTypes := #[(.object "com/example/ack4/ack4/codec/PacketType"), (.object "com/example/ack4/ack4/codec/PacketType"), (.object "com/example/ack4/ack4/codec/PacketType"), (.object "com/example/ack4/ack4/codec/PacketType"), (.object "com/example/ack4/ack4/codec/PacketType"), (.object "com/example/ack4/ack4/codec/PacketType"), (.object "com/example/ack4/ack4/codec/PacketType"), (.object "com/example/ack4/ack4/codec/PacketType"), (.object "com/example/ack4/ack4/codec/PacketType"), (.object "com/example/ack4/ack4/codec/PacketType"), (.object "com/example/ack4/ack4/codec/PacketType"), (.object "com/example/ack4/ack4/codec/PacketType"), (.object "com/example/ack4/ack4/codec/PacketType"), (.object "com/example/ack4/ack4/codec/PacketType"), (.object "com/example/ack4/ack4/codec/PacketType"), .int, (.array (.object "com/example/ack4/ack4/codec/PacketType")), (.array (.object "com/example/ack4/ack4/codec/PacketType"))]
  resolved := Array.replicate 162 none
  statics := some 0 }

def pool7 : Array CpInfo := pool [(1, u "java/lang/Cloneable"), (0, .class_ 1), (0, u "java/lang/Object"), (0, .class_ 3)] 3

/-- java/lang/Cloneable -/
def k7 : Class := { plain "java/lang/Cloneable" (some 0) with
  accessFlags := 1537
  interfaces := #[]
  cf := some (fileOf pool7 2 #[] #[] 1537 4 #[] #[])
  fields := #[]
  methods := #[]
  instanceTypes := #[]
  staticTypes := #[]
  resolved := Array.replicate 8 none
  statics := none }

/-- the primitive byte -/
def k8 : Class := { plain "byte" none with kind := .primitive 'B', accessFlags := 0x411 }
/-- [B -/
def k9 : Class := { plain "[B" (some 0) with kind := .array 8 .byte, interfaces := #[7, 4], accessFlags := 1041 }

/-- the primitive int -/
def k10 : Class := { plain "int" none with kind := .primitive 'I', accessFlags := 0x411 }
/-- [I -/
def k11 : Class := { plain "[I" (some 0) with kind := .array 10 .int, interfaces := #[7, 4], accessFlags := 1041 }

def heap : Heap := #[{ cls := 6, slots := #[.ref 1, .ref 2, .ref 3, .ref 4, .ref 5, .ref 6, .ref 7, .ref 8, .ref 9, .ref 10, .ref 11, .ref 12, .ref 13, .ref 14, .ref 15, .int 0, .null, .null], vm := .statics 6 },
  { cls := 6, slots := #[.null, .int 0, .int 0, .int 0, .int 0], vm := .none },
  { cls := 6, slots := #[.null, .int 0, .int 0, .int 0, .int 0], vm := .none },
  { cls := 6, slots := #[.null, .int 0, .int 0, .int 0, .int (-1)], vm := .none },
  { cls := 6, slots := #[.null, .int 0, .int 0, .int 0, .int 0], vm := .none },
  { cls := 6, slots := #[.null, .int 0, .int 0, .int 0, .int 0], vm := .none },
  { cls := 6, slots := #[.null, .int 0, .int 0, .int 0, .int 2], vm := .none },
  { cls := 6, slots := #[.null, .int 0, .int 0, .int 0, .int 0], vm := .none },
  { cls := 6, slots := #[.null, .int 0, .int 0, .int 0, .int 2], vm := .none },
  { cls := 6, slots := #[.null, .int 0, .int 0, .int 0, .int 0], vm := .none },
  { cls := 6, slots := #[.null, .int 0, .int 0, .int 0, .int 2], vm := .none },
  { cls := 6, slots := #[.null, .int 0, .int 0, .int 0, .int 0], vm := .none },
  { cls := 6, slots := #[.null, .int 0, .int 0, .int 0, .int 0], vm := .none },
  { cls := 6, slots := #[.null, .int 0, .int 0, .int 0, .int 0], vm := .none },
  { cls := 6, slots := #[.null, .int 0, .int 0, .int 0, .int 0], vm := .none },
  { cls := 6, slots := #[.null, .int 0, .int 0, .int 0, .int 0], vm := .none }]
def classes : Array Class := #[k0, k1, k2, k3, k4, k5, k6, k7, k8, k9, k10, k11]
def interned : List (Array UInt16 × Addr) := []
def slotsUsed : Nat := 93
def theMethod : MethodId := ⟨1, 3⟩
def args0 : Array Value := #[.int 5, .int 5, .int 5]
def aboutOver (below : List Frame) : State where
  vm := { classes := classes, interned := interned.toArray }
  heap := heap
  slotsUsed := slotsUsed
  threads := #[{ frames := .invoking theMethod args0 :: below }]
def below0 : List Frame := [.native { method := ⟨0, 0⟩, args := #[] }]
def about1 : State := aboutOver below0
def p0 : Program := .bare "" "" ""
def e0 : Env := launch0.env 0 0 0
theorem w_frames : about1.frames = Frame.invoking theMethod args0 :: below0 := rfl
set_option maxRecDepth 65536 in
theorem w_args : argsFit about1.vm theMethod args0 = true := by decide +kernel
set_option maxRecDepth 65536 in
theorem w_heap : heapFits about1 = true := by decide +kernel
set_option maxRecDepth 65536 in
theorem w_runnable : about1.curStatus? = some .runnable := by decide +kernel
set_option maxRecDepth 65536 in
theorem w_alone : about1.alone = true := by decide +kernel
set_option maxRecDepth 65536 in
theorem w_named : about1.methodNamed? x = some theMethod := by decide +kernel
set_option maxRecDepth 65536 in
theorem w_hears : about1.hears theMethod below0 = true := by decide +kernel
set_option maxRecDepth 65536 in
theorem w_ripe : about1.ripe theMethod args0 below0 = true := by decide +kernel
theorem w_running : about1.status = .running := rfl
set_option maxRecDepth 65536 in
theorem w_room : about1.hasRoom e0.platform room_1 = true :=
  launch0.hasRoom_least _ room_1 (by decide +kernel) (by decide +kernel) (by decide +kernel) (by decide +kernel) (by decide +kernel) (by decide +kernel)
theorem allAtoms_all (ts : List Jvm.Cond) (a : Array Jvm.Value) (st : Jvm.State) : (allAtoms ts).before a st = ts.all (fun c => c.before a st) := by
  induction ts with
  | nil => rfl
  | cons c t ih =>
    show (Jvm.Cond.and c (allAtoms t)).before a st = _
    rw [Jvm.Cond.before_and, ih, List.all_cons]
def words1 : List Jvm.Cond := Jvm.Cond.code x code maxLocals ret :: tables_1
/-- a 'code' word, met by the world's own term for the bytes: nothing is compared byte by byte -/
theorem code_word {y : MethodName} {bytes : ByteArray} {mx : Nat} {rt : Option FieldType} {a : Array Value} {s : State} {m : MethodId} {meth : Method} {c : Code} (h1 : s.methodNamed? y = some m) (h2 : s.vm.method? m = some meth) (h3 : meth.code = some c) (h4 : c.code = bytes)
    (h5 : (c.maxLocals == mx && c.exceptionTable.isEmpty && decide (c.maxStack ≤ mostOperands) && decide (meth.sig.returnType = rt) && !meth.locks && decide (parseMethodDescriptor y.desc = some meth.sig)) = true) : (Jvm.Cond.code y bytes mx rt).before a s = true := by
  simp only [Bool.and_eq_true, beq_iff_eq, Bool.not_eq_true', decide_eq_true_eq] at h5
  obtain ⟨⟨⟨⟨⟨g1, g2⟩, g3⟩, g4⟩, g5⟩, g6⟩ := h5
  simp [Cond.before, Cond.holds, Cond.value, h1, h2, h3, h4, g1, g2, g3, g4, g5, g6]
def isCode : Jvm.Cond → Bool
  | .code _ _ _ _ => true
  | _ => false
theorem all_split {L : List Jvm.Cond} {P : Jvm.Cond → Bool} (h1 : L.all (fun c => isCode c || P c) = true) (h2 : ∀ c ∈ L.filter isCode, P c = true) : L.all P = true := by
  refine List.all_eq_true.mpr fun c hc => ?_
  have h := List.all_eq_true.mp h1 c hc
  rcases Bool.eq_false_or_eq_true (isCode c) with hi | hi
  · exact h2 c (List.mem_filter.mpr ⟨hc, hi⟩)
  · simpa [hi] using h
set_option maxRecDepth 65536 in
theorem w_c0 : (Jvm.Cond.code x code maxLocals ret).before args0 about1 = true := code_word (m := ⟨1, 3⟩) (meth := k1m3) (c := k1c3) (by decide +kernel) rfl rfl rfl (by decide +kernel)
set_option maxRecDepth 65536 in
theorem w_c1 : (Jvm.Cond.code ({ cls := "com/example/ack4/ack4/codec/PacketTypeAllowsFlagsPinLaw", name := "pick", desc := "(I)Lcom/example/ack4/ack4/codec/PacketType;" } : Jvm.MethodName) method_2_code (1 : Nat) (Option.some (Jvm.ClassFile.FieldType.object "com/example/ack4/ack4/codec/PacketType"))).before args0 about1 = true := code_word (m := ⟨1, 1⟩) (meth := k1m1) (c := k1c1) (by decide +kernel) rfl rfl rfl (by decide +kernel)
set_option maxRecDepth 65536 in
theorem w_c2 : (Jvm.Cond.code ({ cls := "com/example/ack4/ack4/codec/PacketType", name := "allowsFlags", desc := "(I)Z" } : Jvm.MethodName) prog_35_method_7_code (2 : Nat) (Option.some Jvm.ClassFile.FieldType.boolean)).before args0 about1 = true := code_word (m := ⟨6, 0⟩) (meth := k6m0) (c := k6c0) (by decide +kernel) rfl rfl rfl (by decide +kernel)
set_option maxRecDepth 65536 in
theorem w_c3 : (Jvm.Cond.code ({ cls := "com/example/ack4/ack4/codec/PacketTypeAllowsFlagsPinLaw", name := "expected", desc := "(II)Z" } : Jvm.MethodName) method_3_code (2 : Nat) (Option.some Jvm.ClassFile.FieldType.boolean)).before args0 about1 = true := code_word (m := ⟨1, 2⟩) (meth := k1m2) (c := k1c2) (by decide +kernel) rfl rfl rfl (by decide +kernel)
def codes1 : List Jvm.Cond := [Jvm.Cond.code x code maxLocals ret, Jvm.Cond.code ({ cls := "com/example/ack4/ack4/codec/PacketTypeAllowsFlagsPinLaw", name := "pick", desc := "(I)Lcom/example/ack4/ack4/codec/PacketType;" } : Jvm.MethodName) method_2_code (1 : Nat) (Option.some (Jvm.ClassFile.FieldType.object "com/example/ack4/ack4/codec/PacketType")), Jvm.Cond.code ({ cls := "com/example/ack4/ack4/codec/PacketType", name := "allowsFlags", desc := "(I)Z" } : Jvm.MethodName) prog_35_method_7_code (2 : Nat) (Option.some Jvm.ClassFile.FieldType.boolean), Jvm.Cond.code ({ cls := "com/example/ack4/ack4/codec/PacketTypeAllowsFlagsPinLaw", name := "expected", desc := "(II)Z" } : Jvm.MethodName) method_3_code (2 : Nat) (Option.some Jvm.ClassFile.FieldType.boolean)]
set_option maxRecDepth 65536 in
theorem codes_eq : words1.filter isCode = codes1 := rfl
theorem w_codes : ∀ c ∈ words1.filter isCode, c.before args0 about1 = true := by
  rw [codes_eq]
  intro c hc
  simp only [codes1, List.mem_cons, List.not_mem_nil, or_false] at hc
  rcases hc with rfl | rfl | rfl | rfl
  · exact w_c0
  · exact w_c1
  · exact w_c2
  · exact w_c3
set_option maxRecDepth 65536 in
theorem w_t1 : (words1.take 24).all (fun c => isCode c || c.before args0 about1) = true := by decide +kernel
set_option maxRecDepth 65536 in
theorem w_t2 : (words1.drop 24).all (fun c => isCode c || c.before args0 about1) = true := by decide +kernel
theorem w_tables : (allAtoms (Jvm.Cond.code x code maxLocals ret :: tables_1)).before args0 about1 = true := by
  rw [allAtoms_all]
  show words1.all (fun c => c.before args0 about1) = true
  refine all_split ?_ w_codes
  rw [← List.take_append_drop 24 words1, List.all_append, w_t1, w_t2]
  rfl
set_option maxRecDepth 65536 in
theorem w_case : (Jvm.Cond.and given_1 narrow_1).before args0 about1 = true := by decide +kernel
theorem w_applies : (headSpec (Jvm.Cond.code x code maxLocals ret :: tables_1) room_1).applies x e0.platform about1 = true :=
  (Spec.applies_iff w_frames).mpr ⟨w_running, w_runnable, w_alone, w_named, w_hears, w_ripe, w_room, w_tables⟩
theorem atStart : AtStart classFile x code maxLocals ret World_1 tables_1 room_1 Calls_1 rest_1 Pre_1 launch0 p0 e0 about1 theMethod args0 below0 :=
  ⟨lists_1, trivial, launch0.admits_env _ _ _, launch0.least_env, fairChoices_fair.cas, fairChoices_fair.clock, w_frames, w_args, w_heap, w_applies, trivial, trivial, w_case⟩
end start1
theorem witness_1 : WitnessClaimed_1 := ⟨start1.p0, start1.e0, start1.about1, start1.theMethod, start1.args0, start1.below0, start1.atStart⟩
end Jvm.Pilot.@@N@@
