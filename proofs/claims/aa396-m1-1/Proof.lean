import JvmDerived
import JvmDerived.Pilot.@@N@@Statement
import JvmDerived.Pilot.@@N@@Code
set_option linter.unusedVariables false
set_option linter.unusedSimpArgs false
@@BLOCK:NumsL.lean.txt@@
namespace Jvm.RoadKit
open Sem ClassFile Op Lib Jvm.Stand Jvm.Free Jvm.LawKit
section Goes
variable {p : Program} {l : Launch} {e : Env} {R : Room} {s : State} {m : MethodId} {args : Array Value} {below : List Frame} {meth : Method} {c : Code} {T : State} {locs : List Loc} {cells slots : Nat}
/-- from here the run comes to its return, and Q holds there -/
def Goes (p : Program) (e : Env) (below : List Frame) (s : State) (Q : Option Value → Heap → List Loc → Prop) (kc ks : Nat) (S : State) : Prop :=
  ∃ s₂ o, Steps p.tables e below S s₂ ∧ s₂.status = .running ∧ Ended s₂ below o ∧ ∃ v L, o = .returned v ∧ Q v s₂.heap L ∧ FrameEnd s o s₂ L kc ks
variable {Q Q' : Option Value → Heap → List Loc → Prop} {kc ks : Nat} {A B : State}
theorem Goes.go (h : ∀ t, Steps p.tables e below A t → Steps p.tables e below B t) (g : Goes p e below s Q kc ks A) : Goes p e below s Q kc ks B := by
  obtain ⟨s2, o, h1, h2⟩ := g
  exact ⟨s2, o, h _ h1, h2⟩
theorem Goes.tr (h : Steps p.tables e below B A) (g : Goes p e below s Q kc ks A) : Goes p e below s Q kc ks B := g.go fun _ k => h.trans k
theorem Goes.weaken (h : ∀ v hp L, Q' v hp L → Q v hp L) (g : Goes p e below s Q' kc ks A) : Goes p e below s Q kc ks A := by
  obtain ⟨s2, o, h1, h2, h3, v, L, h4, h5, h6⟩ := g
  exact ⟨s2, o, h1, h2, h3, v, L, h4, h _ _ _ h5, h6⟩
theorem Goes.castQ (h : Q = Q') (g : Goes p e below s Q' kc ks A) : Goes p e below s Q kc ks A := h ▸ g
theorem Goes.out (X : Stand p l e R s m args below meth c T locs cells slots) (hlk : meth.locks = false) {v : Option Value} (hv : meth.sig.returnType = none → v = none) {F : State}
    (hstep : ∀ fs, (∀ (f : JFrame) (acts : List Action), f.method = m → f.locked = none → f.entered = [] → (doReturn e (T.setTop f) acts v).1 = T.setFrames fs) → Steps p.tables e below F (T.setFrames fs))
    (hq : Q v T.heap locs) (hc : cells ≤ kc) (hs : slots ≤ ks) : Goes p e below s Q kc ks F := by
  obtain ⟨fs, hr, hrun, hended, hW, hsame⟩ := X.leave (v := v) hv hlk
  exact ⟨_, _, hstep fs hr, hrun, hended, _, _, rfl, hq, ⟨_, rfl⟩, hW, hsame.mono hc hs⟩
theorem retI (X : Stand p l e R s m args below meth c T locs cells slots) (hx : p.tables.exec = Jvm.exec) {pc : Nat} {Ls : Array Slot} {z : Int32} {rest : List Value} (hret : meth.sig.returnType = some .int) (hd : decode c.code pc = .ok (.ireturn, 1)) {fs : List Frame}
    (hl : ∀ (f : JFrame) (acts : List Action), f.method = m → f.locked = none → f.entered = [] → (doReturn e (T.setTop f) acts (some (.int z))).1 = T.setFrames fs) : Steps p.tables e below (T.setTop (mkF m pc Ls (.int z :: rest))) (T.setFrames fs) := by
  have hm' : T.vm.method? m = some meth := X.method'
  have hn : narrow .int (.int z) = .int z := rfl
  show Steps p.tables e below (T.setTop { method := m, pc := pc, locals := Ls, stack := _ :: rest, locked := none }) _
  jvm_step X.here [X.here.top, hx, hd, hm', hret, hn]
  first | (intro acts; rw [hl _ acts rfl rfl rfl]) | rw [hl _ _ rfl rfl rfl]
  exact Steps.refl _
theorem Goes.retI (X : Stand p l e R s m args below meth c T locs cells slots) (hx : p.tables.exec = Jvm.exec) (hlk : meth.locks = false) (hret : meth.sig.returnType = some .int) {pc : Nat} {Ls : Array Slot} {z : Int32} {rest : List Value} (hd : decode c.code pc = .ok (.ireturn, 1))
    (hq : Q (some (.int z)) T.heap locs) (hc : cells ≤ kc) (hs : slots ≤ ks) : Goes p e below s Q kc ks (T.setTop (mkF m pc Ls (.int z :: rest))) :=
  Goes.out X hlk (fun h => by rw [hret] at h; cases h) (fun fs hr => Jvm.RoadKit.retI X hx hret hd hr) hq hc hs
theorem Goes.retN (t : FieldType) (X : Stand p l e R s m args below meth c T locs cells slots) (hx : p.tables.exec = Jvm.exec) (hlk : meth.locks = false) (hret : meth.sig.returnType = some t) (ht : t = .boolean ∨ t = .byte ∨ t = .char ∨ t = .short) {pc : Nat} {Ls : Array Slot} {z : Int32} {rest : List Value} (hd : decode c.code pc = .ok (.ireturn, 1))
    (hq : Q (some (.int (nar t z))) T.heap locs) (hc : cells ≤ kc) (hs : slots ≤ ks) : Goes p e below s Q kc ks (T.setTop (mkF m pc Ls (.int z :: rest))) :=
  Goes.out X hlk (fun h => by rw [hret] at h; cases h) (fun fs hr => Jvm.RoadKit.retN X hx hret ht hd hr) hq hc hs
theorem Goes.ret0 (X : Stand p l e R s m args below meth c T locs cells slots) (hx : p.tables.exec = Jvm.exec) (hlk : meth.locks = false) (hret : meth.sig.returnType = none) {pc : Nat} {Ls : Array Slot} (hd : decode c.code pc = .ok (.return_, 1))
    (hq : Q none T.heap locs) (hc : cells ≤ kc) (hs : slots ≤ ks) : Goes p e below s Q kc ks (T.setTop (mkF m pc Ls [])) :=
  Goes.out X hlk (fun _ => rfl) (fun fs hr => X.returnOut hx hret hd hr) hq hc hs
theorem Goes.retJ (X : Stand p l e R s m args below meth c T locs cells slots) (hx : p.tables.exec = Jvm.exec) (hlk : meth.locks = false) (hret : meth.sig.returnType = some .long) {pc : Nat} {Ls : Array Slot} {z : Int64} (hd : decode c.code pc = .ok (.lreturn, 1))
    (hq : Q (some (.long z)) T.heap locs) (hc : cells ≤ kc) (hs : slots ≤ ks) : Goes p e below s Q kc ks (T.setTop (mkF m pc Ls [.long z])) :=
  Goes.out X hlk (fun h => by rw [hret] at h; cases h) (fun fs hr => X.lreturnOut hx hret hd hr) hq hc hs
theorem Goes.retA (X : Stand p l e R s m args below meth c T locs cells slots) (hx : p.tables.exec = Jvm.exec) (hlk : meth.locks = false) {w : Value} (hw : w.isRef = true) {t : FieldType} (hret : meth.sig.returnType = some t) (ht : t.isReference = true) {pc : Nat} {Ls : Array Slot} (hd : decode c.code pc = .ok (.areturn, 1))
    (hq : Q (some w) T.heap locs) (hc : cells ≤ kc) (hs : slots ≤ ks) : Goes p e below s Q kc ks (T.setTop (mkF m pc Ls [w])) :=
  Goes.out X hlk (fun h => by rw [hret] at h; cases h) (fun fs hr => X.areturnOut hx hw hret ht hd hr) hq hc hs
/-- the answer of a method that writes nothing -/
def Qp (z : Value) (h0 : Heap) (n0 : Nat) (v : Option Value) (h : Heap) (L : List Loc) : Prop := v = some z ∧ Fr n0 L ∧ h = h0
/-- the answer of a method that writes nothing and returns nothing -/
def Qn (h0 : Heap) (n0 : Nat) (v : Option Value) (h : Heap) (L : List Loc) : Prop := v = none ∧ Fr n0 L ∧ h = h0
theorem Goes.qi {z z' : Int32} {h0 : Heap} {n0 : Nat} (h : z = z') (g : Goes p e below s (Qp (.int z') h0 n0) kc ks A) : Goes p e below s (Qp (.int z) h0 n0) kc ks A := h ▸ g
theorem Goes.qj {z z' : Int64} {h0 : Heap} {n0 : Nat} (h : z = z') (g : Goes p e below s (Qp (.long z') h0 n0) kc ks A) : Goes p e below s (Qp (.long z) h0 n0) kc ks A := h ▸ g
end Goes
end Jvm.RoadKit
namespace Jvm.RoadKit
open Sem ClassFile Op Lib Jvm.Stand Jvm.Free Jvm.LawKit
/-- an array of ints (bytes, chars, booleans): its length and what each place holds -/
def IA (Z : State) (h : Heap) (a : Addr) (ty : FieldType) (n : Nat) (f : Nat → Int32) : Prop :=
  ∃ c : Cell, Arr Z h a c ty ∧ c.slots.size = n ∧ n < 2 ^ 31 ∧ ∀ i, i < n → c.slots[i]? = some (.int (f i)) ∧ fits ty (.int (f i)) = true
def own_upd (f : Nat → Int32) (i : Nat) (v : Int32) : Nat → Int32 := fun k => if k = i then v else f k
section IAs
variable {p : Program} {l : Launch} {e : Env} {R : Room} {s : State} {m : MethodId} {args : Array Value} {below : List Frame} {meth : Method} {c : Code} {T : State} {locs : List Loc} {cells slots : Nat} {Z : State} {a0 : Array Value} {h h' : Heap} {a b : Addr} {ty : FieldType} {n : Nat} {f f' : Nat → Int32} {sl : Nat} {v : Value} {ws : List Addr}
theorem IA.lt (F : IA Z h a ty n f) : a < h.size := by obtain ⟨c, A, -⟩ := F; exact A.lt
theorem IA.ext (F : IA Z h a ty n f) (E : Ext h h') : IA Z h' a ty n f := by obtain ⟨c, A, r⟩ := F; exact ⟨c, A.ext E, r⟩
theorem IA.other (F : IA Z h b ty n f) (W : Wr h h' a sl v) (q : b ≠ a) : IA Z h' b ty n f := by obtain ⟨c, A, r⟩ := F; exact ⟨c, A.other W q, r⟩
theorem IA.keep (F : IA Z h a ty n f) (K : Keep h h' ws) (q : a ∉ ws) : IA Z h' a ty n f := by obtain ⟨c, A, r⟩ := F; exact ⟨c, ⟨K.2.1 a c A.1 q, A.2⟩, r⟩
theorem IA.as (F : IA Z h a ty n f) (q : ∀ i, i < n → f i = f' i) : IA Z h a ty n f' := by
  obtain ⟨c, A, S, M, H⟩ := F
  exact ⟨c, A, S, M, fun i hi => by rw [← q i hi]; exact H i hi⟩
theorem IA.bound (F : IA Z h a ty n f) : n < 2 ^ 31 := by obtain ⟨c, A, S, M, H⟩ := F; exact M
theorem own_nat {i : Nat} (hi : i < 2 ^ 31) : (Int32.ofNat i).toInt = i := Int32.toInt_ofNat_of_lt (by omega)
theorem own_cl {i : Nat} (hi : i < 2 ^ 31) : (Int32.ofNat i).toNatClampNeg = i := by
  have := own_nat hi
  show (Int32.ofNat i).toInt.toNat = i
  omega
theorem own_in {i : Nat} (hi : i < n) (hn : n < 2 ^ 31) : ¬ (Int32.ofNat i < 0 ∨ n ≤ (Int32.ofNat i).toNatClampNeg) := by
  rw [own_cl (by omega)]
  rintro (q | q)
  · have := Int32.lt_iff_toInt_lt.mp q
    rw [own_nat (by omega)] at this
    have z : (0 : Int32).toInt = 0 := rfl
    omega
  · omega
theorem IA.set {c : Cell} (A : Arr Z h a c ty) (S : c.slots.size = n) (M : n < 2 ^ 31) (H : ∀ i, i < n → c.slots[i]? = some (.int (f i)) ∧ fits ty (.int (f i)) = true) {i : Nat} (hi : i < n) {x : Int32} (hx : fits ty (.int x) = true) (W : Wr h h' a i (.int x)) : IA Z h' a ty n (own_upd f i x) := by
  refine ⟨c.setSlot i (.int x), A.same W, by rw [sz_set]; exact S, M, fun k hk => ?_⟩
  by_cases q : k = i
  · subst q
    simp only [own_upd, if_pos]
    exact ⟨by simp [Cell.setSlot, S, hk], hx⟩
  · simp only [own_upd, if_neg q]
    refine ⟨?_, (H k hk).2⟩
    rw [← (H k hk).1]
    simp only [Cell.setSlot]
    exact Array.getElem?_setIfInBounds_ne (Ne.symm q)
theorem own_newA (X : Stand p l e R s m args below meth c T locs cells slots) (hx : p.tables.exec = Jvm.exec) (hZ : Z.Warmed39 s.vm) {aty : ArrayType} (w : (Cond.arrayClass (newarray.typeOf aty)).before a0 Z = true) (eT : T.heap = h) {g : JFrame} (hg : g.method = m) (hd : decode c.code g.pc = .ok (.newarray aty, 2)) {z : Int32} {rest : List Value} (hs : g.stack = .int z :: rest)
    {n : Nat} (hz : z = Int32.ofNat n) {cap : Nat} (hcap : n ≤ cap) (hb : cap * 8 ≤ 536870912) (hc : cells + 1 ≤ R.cells) (hl : slots + cap ≤ R.slots) (hdv : defaultValue (newarray.typeOf aty) = .int 0) (hft : fits (newarray.typeOf aty) (.int 0) = true) {ad : String} (had : "[" ++ (newarray.typeOf aty).toString = ad) :
    ∃ T' h', Stand p l e R s m args below meth c T' locs (cells + 1) (slots + cap) ∧ T'.heap = h' ∧ Ext h h' ∧ IA Z h' h.size (newarray.typeOf aty) n (fun _ => 0) ∧ Exa Z h' h.size ad ∧
      ∀ target, Steps p.tables e below (T'.setTop { g with pc := g.pc + 2, stack := .ref h.size :: rest }) target → Steps p.tables e below (T.setTop g) target := by
  have hn31 : n < 2 ^ 31 := by omega
  have hcl : z.toNatClampNeg = n := by rw [hz]; exact own_cl hn31
  have hneg : ¬ z < 0 := by
    rw [hz]; intro q
    have := Int32.lt_iff_toInt_lt.mp q
    rw [own_nat hn31] at this
    have z : (0 : Int32).toInt = 0 := rfl
    omega
  obtain ⟨T', h', cA, X', e', E, A, EX, st⟩ := newPE X hx hZ w eT hg hd hs hneg (cap := cap) (by rw [hcl]; exact hcap) hb hc hl had
  refine ⟨T', h', X', e', E, ⟨_, A, by rw [sz_new]; exact hcl, hn31, fun i hi => ⟨?_, hft⟩⟩, EX, st⟩
  have := get_new (cA := cA) (ty := newarray.typeOf aty) (n := z) (k := Int32.ofNat i) (by rw [hcl]; exact own_in hi hn31)
  rw [own_cl (by omega), hdv] at this
  exact this
theorem own_stI (X : Stand p l e R s m args below meth c T locs cells slots) (hx : p.tables.exec = Jvm.exec) (hZ : Z.Warmed39 s.vm) (eT : T.heap = h) (A : IA Z h a .int n f) {j x : Int32} {i : Nat} (hj : j = Int32.ofNat i) (hi : i < n) {g : JFrame} (hg : g.method = m) {rest : List Value} (hs : g.stack = .int x :: .int j :: .ref a :: rest) (hd : decode c.code g.pc = .ok (.iastore, 1)) :
    ∃ T' h', Stand p l e R s m args below meth c T' (locs ++ [⟨a, i⟩]) cells slots ∧ T'.heap = h' ∧ Wr h h' a i (.int x) ∧ IA Z h' a .int n (own_upd f i x) ∧ ∀ target, Steps p.tables e below (T'.setTop { g with pc := g.pc + 1, stack := rest }) target → Steps p.tables e below (T.setTop g) target := by
  obtain ⟨cl, A, S, M, H⟩ := A
  subst hj
  obtain ⟨T', h', X', e', W, st⟩ := stI X hx hZ eT A (j := Int32.ofNat i) (by rw [S]; exact own_in hi M) hg hs hd
  rw [own_cl (by omega)] at X' W
  exact ⟨T', h', X', e', W, IA.set A S M H hi rfl W, st⟩
theorem own_stB (X : Stand p l e R s m args below meth c T locs cells slots) (hx : p.tables.exec = Jvm.exec) (hZ : Z.Warmed39 s.vm) (eT : T.heap = h) (A : IA Z h a .byte n f) {j x : Int32} {i : Nat} (hj : j = Int32.ofNat i) (hi : i < n) {g : JFrame} (hg : g.method = m) {rest : List Value} (hs : g.stack = .int x :: .int j :: .ref a :: rest) (hd : decode c.code g.pc = .ok (.bastore, 1)) :
    ∃ T' h', Stand p l e R s m args below meth c T' (locs ++ [⟨a, i⟩]) cells slots ∧ T'.heap = h' ∧ Wr h h' a i (.int (nar .byte x)) ∧ IA Z h' a .byte n (own_upd f i (nar .byte x)) ∧ ∀ target, Steps p.tables e below (T'.setTop { g with pc := g.pc + 1, stack := rest }) target → Steps p.tables e below (T.setTop g) target := by
  obtain ⟨cl, A, S, M, H⟩ := A
  subst hj
  obtain ⟨T', h', X', e', W, st⟩ := stB X hx hZ eT A (j := Int32.ofNat i) (by rw [S]; exact own_in hi M) hg hs hd
  rw [own_cl (by omega)] at X' W
  exact ⟨T', h', X', e', W, IA.set A S M H hi (fits_nar_byte _) W, st⟩
theorem own_stC (X : Stand p l e R s m args below meth c T locs cells slots) (hx : p.tables.exec = Jvm.exec) (hZ : Z.Warmed39 s.vm) (eT : T.heap = h) (A : IA Z h a .char n f) {j x : Int32} {i : Nat} (hj : j = Int32.ofNat i) (hi : i < n) {g : JFrame} (hg : g.method = m) {rest : List Value} (hs : g.stack = .int x :: .int j :: .ref a :: rest) (hd : decode c.code g.pc = .ok (.castore, 1)) :
    ∃ T' h', Stand p l e R s m args below meth c T' (locs ++ [⟨a, i⟩]) cells slots ∧ T'.heap = h' ∧ Wr h h' a i (.int (nar .char x)) ∧ IA Z h' a .char n (own_upd f i (nar .char x)) ∧ ∀ target, Steps p.tables e below (T'.setTop { g with pc := g.pc + 1, stack := rest }) target → Steps p.tables e below (T.setTop g) target := by
  obtain ⟨cl, A, S, M, H⟩ := A
  subst hj
  obtain ⟨T', h', X', e', W, st⟩ := stC X hx hZ eT A (j := Int32.ofNat i) (by rw [S]; exact own_in hi M) hg hs hd
  rw [own_cl (by omega)] at X' W
  exact ⟨T', h', X', e', W, IA.set A S M H hi (fits_nar_char _) W, st⟩
theorem own_stZ (X : Stand p l e R s m args below meth c T locs cells slots) (hx : p.tables.exec = Jvm.exec) (hZ : Z.Warmed39 s.vm) (eT : T.heap = h) (A : IA Z h a .boolean n f) {j x : Int32} {i : Nat} (hj : j = Int32.ofNat i) (hi : i < n) {g : JFrame} (hg : g.method = m) {rest : List Value} (hs : g.stack = .int x :: .int j :: .ref a :: rest) (hd : decode c.code g.pc = .ok (.bastore, 1)) :
    ∃ T' h', Stand p l e R s m args below meth c T' (locs ++ [⟨a, i⟩]) cells slots ∧ T'.heap = h' ∧ Wr h h' a i (.int (nar .boolean x)) ∧ IA Z h' a .boolean n (own_upd f i (nar .boolean x)) ∧ ∀ target, Steps p.tables e below (T'.setTop { g with pc := g.pc + 1, stack := rest }) target → Steps p.tables e below (T.setTop g) target := by
  obtain ⟨cl, A, S, M, H⟩ := A
  subst hj
  obtain ⟨T', h', X', e', W, st⟩ := stZ X hx hZ eT A (j := Int32.ofNat i) (by rw [S]; exact own_in hi M) hg hs hd
  rw [own_cl (by omega)] at X' W
  exact ⟨T', h', X', e', W, IA.set A S M H hi (fits_nar_bool _) W, st⟩
theorem own_ldI (X : Stand p l e R s m args below meth c T locs cells slots) (hx : p.tables.exec = Jvm.exec) (hZ : Z.Warmed39 s.vm) (eT : T.heap = h) (A : IA Z h a .int n f) {j : Int32} {i : Nat} (hj : j = Int32.ofNat i) (hi : i < n) {g : JFrame} (hg : g.method = m) {rest : List Value} (hs : g.stack = .int j :: .ref a :: rest) (hd : decode c.code g.pc = .ok (.iaload, 1)) :
    ∀ target, Steps p.tables e below (T.setTop { g with pc := g.pc + 1, stack := .int (f i) :: rest }) target → Steps p.tables e below (T.setTop g) target := by
  obtain ⟨cl, A, S, M, H⟩ := A
  subst hj
  exact X.iaload hx (j := Int32.ofNat i) (v := .int (f i)) (by rw [eT]; exact A.1) (State.isArrayOf_alike hZ.alike A.2.1) A.2.2 (by rw [S]; exact own_in hi M) (by rw [own_cl (by omega)]; exact (H i hi).1) hg hs hd
theorem own_ldB (X : Stand p l e R s m args below meth c T locs cells slots) (hx : p.tables.exec = Jvm.exec) (hZ : Z.Warmed39 s.vm) (eT : T.heap = h) (A : IA Z h a .byte n f) {j : Int32} {i : Nat} (hj : j = Int32.ofNat i) (hi : i < n) {g : JFrame} (hg : g.method = m) {rest : List Value} (hs : g.stack = .int j :: .ref a :: rest) (hd : decode c.code g.pc = .ok (.baload, 1)) :
    ∀ target, Steps p.tables e below (T.setTop { g with pc := g.pc + 1, stack := .int (f i) :: rest }) target → Steps p.tables e below (T.setTop g) target := by
  obtain ⟨cl, A, S, M, H⟩ := A
  subst hj
  exact X.baloadBytes hx (j := Int32.ofNat i) (v := .int (f i)) (by rw [eT]; exact A.1) (State.isArrayOf_alike hZ.alike A.2.1) A.2.2 (by rw [S]; exact own_in hi M) (by rw [own_cl (by omega)]; exact (H i hi).1) hg hs hd
theorem own_ldZ (X : Stand p l e R s m args below meth c T locs cells slots) (hx : p.tables.exec = Jvm.exec) (hZ : Z.Warmed39 s.vm) (eT : T.heap = h) (A : IA Z h a .boolean n f) {j : Int32} {i : Nat} (hj : j = Int32.ofNat i) (hi : i < n) {g : JFrame} (hg : g.method = m) {rest : List Value} (hs : g.stack = .int j :: .ref a :: rest) (hd : decode c.code g.pc = .ok (.baload, 1)) :
    ∀ target, Steps p.tables e below (T.setTop { g with pc := g.pc + 1, stack := .int (f i) :: rest }) target → Steps p.tables e below (T.setTop g) target := by
  obtain ⟨cl, A, S, M, H⟩ := A
  subst hj
  exact X.baloadBooleans hx (j := Int32.ofNat i) (v := .int (f i)) (by rw [eT]; exact A.1) (State.isArrayOf_alike hZ.alike A.2.1) A.2.2 (by rw [S]; exact own_in hi M) (by rw [own_cl (by omega)]; exact (H i hi).1) hg hs hd
theorem own_ldC (X : Stand p l e R s m args below meth c T locs cells slots) (hx : p.tables.exec = Jvm.exec) (hZ : Z.Warmed39 s.vm) (eT : T.heap = h) (A : IA Z h a .char n f) {j : Int32} {i : Nat} (hj : j = Int32.ofNat i) (hi : i < n) {g : JFrame} (hg : g.method = m) {rest : List Value} (hs : g.stack = .int j :: .ref a :: rest) (hd : decode c.code g.pc = .ok (.caload, 1)) :
    ∀ target, Steps p.tables e below (T.setTop { g with pc := g.pc + 1, stack := .int (f i) :: rest }) target → Steps p.tables e below (T.setTop g) target := by
  obtain ⟨cl, A, S, M, H⟩ := A
  subst hj
  exact X.caload hx (j := Int32.ofNat i) (v := .int (f i)) (by rw [eT]; exact A.1) (State.isArrayOf_alike hZ.alike A.2.1) A.2.2 (by rw [S]; exact own_in hi M) (by rw [own_cl (by omega)]; exact (H i hi).1) hg hs hd
theorem own_len (X : Stand p l e R s m args below meth c T locs cells slots) (hx : p.tables.exec = Jvm.exec) (hZ : Z.Warmed39 s.vm) (eT : T.heap = h) (A : IA Z h a ty n f) {g : JFrame} (hg : g.method = m) {rest : List Value} (hs : g.stack = .ref a :: rest) (hd : decode c.code g.pc = .ok (.arraylength, 1)) :
    ∀ target, Steps p.tables e below (T.setTop { g with pc := g.pc + 1, stack := .int (Int32.ofNat n) :: rest }) target → Steps p.tables e below (T.setTop g) target := by
  obtain ⟨cl, A, S, M, H⟩ := A
  subst S
  exact X.arraylength hx (by rw [eT]; exact A.1) (State.isArrayOf_alike hZ.alike A.2.1) hg hs hd
end IAs
end Jvm.RoadKit
namespace Jvm.RoadKit
open Sem ClassFile Op Lib Jvm.Stand Jvm.Free Jvm.LawKit
theorem own_eqNat {x : Int32} {n : Nat} (h : x.toInt = n) : x = Int32.ofNat n := Int32.toInt_inj.mp (by rw [h, own_nat (by have := x.toInt_lt; omega)])
theorem own_andN (x m : Int32) (k : Nat) (hk : k < 32) (hm : m.toBitVec.toNat = 2 ^ k - 1) : ∃ n : Nat, n < 2 ^ k ∧ x &&& m = Int32.ofNat n := by
  have h := Jvm.Kit.i32_mask x m hk hm
  have hpos : (0 : Int) < 2 ^ k := Int.pow_pos (by decide)
  have h1 := Int.emod_nonneg x.toInt (Int.ne_of_gt hpos)
  have h2 := Int.emod_lt_of_pos x.toInt hpos
  refine ⟨(x.toInt % 2 ^ k).toNat, ?_, own_eqNat ?_⟩
  · have e : ((2 ^ k : Nat) : Int) = (2 : Int) ^ k := by rw [Int.natCast_pow]; rfl
    omega
  · rw [h]; omega
theorem own_modN (x : Int32) (d : Nat) (h0 : 0 < d) (hd : d < 2 ^ 31) : ∃ n : Nat, n < d ∧ (x &&& 2147483647) % Int32.ofNat d = Int32.ofNat n := by
  have h := Jvm.Kit.i32_mask x 2147483647 (k := 31) (by decide) (by decide)
  have h1 := Int.emod_nonneg x.toInt (show (2 : Int) ^ 31 ≠ 0 by decide)
  have e := Jvm.Kit.i32_rem_nonneg (x := x &&& 2147483647) (y := Int32.ofNat d) (by rw [h]; exact h1)
  rw [own_nat hd] at e
  have h2 := Int.emod_nonneg (x &&& 2147483647).toInt (show (d : Int) ≠ 0 by omega)
  have h3 := Int.emod_lt_of_pos (x &&& 2147483647).toInt (show (0 : Int) < d by omega)
  exact ⟨((x &&& 2147483647).toInt % d).toNat, by omega, own_eqNat (by rw [e]; omega)⟩
theorem own_lt {i n : Nat} (hi : i < 2 ^ 31) (hn : n < 2 ^ 31) : Int32.ofNat i < Int32.ofNat n ↔ i < n := by
  rw [Int32.lt_iff_toInt_lt, own_nat hi, own_nat hn]; omega
theorem own_inj {i n : Nat} (hi : i < 2 ^ 31) (hn : n < 2 ^ 31) : Int32.ofNat i = Int32.ofNat n ↔ i = n := by
  rw [← Int32.toInt_inj, own_nat hi, own_nat hn]; omega
theorem own_add {i n : Nat} (h : i + n < 2 ^ 31) : Int32.ofNat i + Int32.ofNat n = Int32.ofNat (i + n) :=
  own_eqNat (by rw [Jvm.Kit.i32_add (by rw [own_nat (by omega), own_nat (by omega)]; omega) (by rw [own_nat (by omega), own_nat (by omega)]; omega), own_nat (by omega), own_nat (by omega)]; omega)
end Jvm.RoadKit
namespace Jvm.RoadKit
open Sem ClassFile Op Lib Jvm.Stand Jvm.Free Jvm.LawKit
section Switch
variable {p : Program} {l : Launch} {e : Env} {R : Room} {s : State} {m : MethodId} {args : Array Value} {below : List Frame} {meth : Method} {c : Code} {T : State} {locs : List Loc} {cells slots : Nat}
theorem own_lswH (X : Stand p l e R s m args below meth c T locs cells slots) (hx : p.tables.exec = Jvm.exec) {g : JFrame} (hg : g.method = m) {k : Int32} {rest : List Value} {pc0 pc' : Nat} (hpc : g.pc = pc0)
    (hs : g.stack = .int k :: rest) {dflt : Int} {pairs : Array (Int × Int)} {len : Nat} (hd : decode c.code g.pc = .ok (.lookupswitch dflt pairs, len))
    (hsorted : (pairs.toList.zip (pairs.toList.drop 1)).all (fun (a, next) => a.1 < next.1) = true) {a off : Int} (hfind : pairs.find? (·.1 == k.toInt) = some (a, off)) (ho : 0 ≤ (pc0 : Int) + off) (hp : ((pc0 : Int) + off).toNat = pc')
    (target : State) (hr : Steps p.tables e below (T.setTop { g with pc := pc', stack := rest }) target) : Steps p.tables e below (T.setTop g) target := by
  subst hpc hp
  exact X.lookupswitchHit hx hg hs hd hsorted hfind ho target hr
theorem own_lswM (X : Stand p l e R s m args below meth c T locs cells slots) (hx : p.tables.exec = Jvm.exec) {g : JFrame} (hg : g.method = m) {k : Int32} {rest : List Value} {pc0 pc' : Nat} (hpc : g.pc = pc0)
    (hs : g.stack = .int k :: rest) {dflt : Int} {pairs : Array (Int × Int)} {len : Nat} (hd : decode c.code g.pc = .ok (.lookupswitch dflt pairs, len))
    (hsorted : (pairs.toList.zip (pairs.toList.drop 1)).all (fun (a, next) => a.1 < next.1) = true) (hfind : ∀ q ∈ pairs.toList, q.1 ≠ k.toInt) (ho : 0 ≤ (pc0 : Int) + dflt) (hp : ((pc0 : Int) + dflt).toNat = pc')
    (target : State) (hr : Steps p.tables e below (T.setTop { g with pc := pc', stack := rest }) target) : Steps p.tables e below (T.setTop g) target := by
  subst hpc hp
  exact X.lookupswitchMiss hx hg hs hd hsorted (find_miss hfind) ho target hr
theorem own_nk {x y : Int32} {z : Int} (hz : y.toInt = z) (h : ¬ x = y) : z ≠ x.toInt := fun q => h (Int32.toInt_inj.mp (q.symm.trans hz.symm))
end Switch
end Jvm.RoadKit
namespace Jvm.RoadKit
open Sem ClassFile Op Lib Jvm.Stand Jvm.Free Jvm.LawKit
section Statics
variable {Z : State} {args : Array Value} {C n d K : String} {t : Term} {a : Addr}
theorem own_sta (h : (Cond.exactly (.static C n d) K).value args Z none Z [] = some true) (hi : (Cond.initialized C).before args Z = true) (hl : (Cond.laysStatic C n d).before args Z = true) : ∃ a, (Term.static C n d).eval args Z none [] Z = some (.ref a) ∧ Sta Z Z.heap C n d (.ref a) ∧ Exa Z Z.heap a K := by
  obtain ⟨a, e⟩ := exa_v h
  exact ⟨a, e, Sta.start e (Or.inr ⟨hi, hl⟩), Exa.start e h⟩
theorem own_stfI {k : Int32} (e : t.eval args Z none [] Z = some (.ref a)) (h : (Cond.eq (.field t C n d) (.int k)).value args Z none Z [] = some true) : Fld Z Z.heap a C n d (.int k) := by
  apply Fld.start
  simp only [Cond.value, Term.eval, e, Option.bind_eq_bind, Option.bind_some] at h
  cases hf : Z.fieldOf? a C n d with
  | none => simp [hf] at h
  | some x => cases x <;> simp [hf] at h ⊢; exact h
theorem own_stfJ {k : Int64} (e : t.eval args Z none [] Z = some (.ref a)) (h : (Cond.eq (.field t C n d) (.long k)).value args Z none Z [] = some true) : Fld Z Z.heap a C n d (.long k) := by
  apply Fld.start
  simp only [Cond.value, Term.eval, e, Option.bind_eq_bind, Option.bind_some] at h
  cases hf : Z.fieldOf? a C n d with
  | none => simp [hf] at h
  | some x => cases x <;> simp [hf] at h ⊢; exact h
end Statics
end Jvm.RoadKit
namespace Jvm.RoadKit
open Sem ClassFile Op Lib Jvm.Stand Jvm.Free Jvm.LawKit
theorem own_lrem {tb : Tables} [Ours tb] {e : Env} {below : List Frame} {T target : State} {m : MethodId} {c : Code} {g : JFrame} (h : At T m c below) (hx : tb.exec = Jvm.exec) (hg : g.method = m) {x y : Int64} {rest : List Value} (hd : decode c.code g.pc = .ok (.lrem, 1)) (hs : g.stack = .long y :: .long x :: rest) (hy : y ≠ 0)
    (hr : Steps tb e below (T.setTop { g with pc := g.pc + 1, stack := .long (x % y) :: rest }) target) : Steps tb e below (T.setTop g) target :=
  XS.lrem h hx hg hd hs hy (by rw [lrem_mod]; exact hr)
theorem own_irem_mod (x y : Int32) : x - (x / y) * y = x % y := by
  apply Int32.toInt_inj.mp
  have h1 := Int32.le_toInt (x % y)
  have h2 := Int32.toInt_lt (x % y)
  rw [Int32.toInt_sub, Int32.toInt_mul, Int32.toInt_div, Int.bmod_mul_bmod, Int.sub_bmod_bmod, Int.mul_comm (x.toInt.tdiv y.toInt), ← Int.tmod_def, ← Int32.toInt_mod]
  exact Int.bmod_eq_of_le_mul_two (by omega) (by omega)
theorem own_irem {tb : Tables} [Ours tb] {e : Env} {below : List Frame} {T target : State} {m : MethodId} {c : Code} {g : JFrame} (h : At T m c below) (hx : tb.exec = Jvm.exec) (hg : g.method = m) {x y : Int32} {rest : List Value} (hd : decode c.code g.pc = .ok (.irem, 1)) (hs : g.stack = .int y :: .int x :: rest) (hy : y ≠ 0)
    (hr : Steps tb e below (T.setTop { g with pc := g.pc + 1, stack := .int (x % y) :: rest }) target) : Steps tb e below (T.setTop g) target :=
  XS.irem h hx hg hd hs hy (by rw [own_irem_mod]; exact hr)
theorem own_div1 (x : Int64) : x / 1 = x := Int64.toInt_inj.mp (by
  rw [Jvm.Kit.i64_div (fun q => by have := q.2; revert this; decide)]
  show x.toInt.tdiv 1 = x.toInt
  exact Int.tdiv_one _)
end Jvm.RoadKit
namespace Jvm.RoadKit
open Sem ClassFile Op Lib Jvm.Stand Jvm.Free Jvm.LawKit
theorem own_kx {h h' : Heap} (K : Keep h h' []) : Ext h h' := ⟨K.1, fun a c q => K.2.1 a c q nin0⟩
section Unlike
variable {Z : State} {a0 : Array Value}
theorem own_nsroot {O K : String} {n : Nat} (w : (Cond.noSuperclass O).before a0 Z = true) (wk : (Cond.instantiable K n).before a0 Z = true) (hn : O ≠ K) : NS Z O K := by
  obtain ⟨c, k, h1, h2, h3, -, -⟩ := Cond.noSuperclass_spec w
  obtain ⟨t, k', g1, g2, -⟩ := Cond.instantiable_spec wk
  have ne := ids_ne h1 g1 hn
  refine ⟨c, t, h1, g1, fun fuel => ?_⟩
  cases fuel with
  | zero => rfl
  | succ f => simp [Vm.isSubclassAux, ne, h2, h3]
theorem own_nsno {C S K : String} {n : Nat} (w : (Cond.superclass C S).before a0 Z = true) (wk : (Cond.instantiable K n).before a0 Z = true) (N : NS Z C K) (hn : C ≠ K) : ∃ c t, Z.vm.findClass C = some c ∧ Z.vm.findClass K = some t ∧ Z.vm.assignable c t = false := by
  obtain ⟨c, t, h0, g0, n3⟩ := N
  obtain ⟨p, k, kp, h1, h2, h3, h4, h5, -, h7⟩ := Cond.superclass_spec h0 w
  obtain ⟨t', k', g1, g2, g3, g4, -⟩ := Cond.instantiable_spec wk
  cases g0.symm.trans g1
  have g7 : k'.isInterface = false := by
    cases hq : k'.isInterface with
    | false => rfl
    | true => rw [hq] at g4; simp at g4
  have ne := ids_ne h0 g0 hn
  refine ⟨c, t, h0, g0, ?_⟩
  show Z.vm.assignableAux (255 + 1) c t = false
  simp [Vm.assignableAux, ne, h2, g2, h5, g3, g7, Vm.isSubclass, n3]
end Unlike
end Jvm.RoadKit
namespace Jvm.RoadKit
open Sem ClassFile Op Lib Jvm.Stand Jvm.Free Jvm.LawKit
section Clone
variable {p : Program} {l : Launch} {e : Env} {R : Room} {s : State} {m : MethodId} {args : Array Value} {below : List Frame} {meth : Method} {c : Code} {T : State} {locs : List Loc} {cells slots : Nat} {Z : State} {a0 : Array Value} {h : Heap} {a : Addr} {ty : FieldType} {n : Nat} {f : Nat → Int32}
theorem own_clone (X : Stand p l e R s m args below meth c T locs cells slots) (hx : p.tables.exec = Jvm.exec) (hZ : Z.Warmed39 s.vm) {own ad : String} {index : Nat} (hown : s.vm.findClass own = some m.cls)
    (w1 : (Cond.methodLink own index ⟨ad, "clone", "()Ljava/lang/Object;"⟩).before a0 Z = true) (w2 : (Cond.sameMethod ad "java/lang/Object" "clone" "()Ljava/lang/Object;").before a0 Z = true) (w3 : (Cond.native ⟨"java/lang/Object", "clone", "()Ljava/lang/Object;"⟩).before a0 Z = true)
    (w4 : (Cond.instanceMethod ⟨"java/lang/Object", "clone", "()Ljava/lang/Object;"⟩).before a0 Z = true) (w5 : (Cond.selects ad ⟨ad, "clone", "()Ljava/lang/Object;"⟩ ⟨"java/lang/Object", "clone", "()Ljava/lang/Object;"⟩).before a0 Z = true) (w6 : (Cond.castable ad "java/lang/Cloneable").before a0 Z = true)
    (eT : T.heap = h) (A : IA Z h a ty n f) (E : Exa Z h a ad) {g : JFrame} (hg : g.method = m) (hsize : g.locals.size = c.maxLocals) {rest : List Value} (hs : g.stack = .ref a :: rest) (hd : decode c.code g.pc = .ok (.invokevirtual index, 3))
    (hf : 1 ≤ R.frames) {W cap : Nat} (hW : 2 * g.monitorRoom + (rest.map fun v => v.category).sum ≤ W) (hl : W + 14 ≤ R.locals) (hcap : n ≤ cap) (hc : cells + 1 ≤ R.cells) (hsl : slots + cap ≤ R.slots) :
    ∃ T' h', Stand p l e R s m args below meth c T' locs (cells + 1) (slots + cap) ∧ T'.heap = h' ∧ Ext h h' ∧ IA Z h' h.size ty n f ∧ Exa Z h' h.size ad ∧
      ∀ target, Steps p.tables e below (T'.setTop { g with pc := g.pc + 3, stack := .ref h.size :: rest }) target → Steps p.tables e below (T.setTop g) target := by
  obtain ⟨cl, A, S, M, H⟩ := A
  have FC : FitC Z cl := fitC_of A fun i hi v hv => by
    rw [S] at hi
    rw [(H i hi).1] at hv
    cases hv
    exact (H i hi).2
  obtain ⟨T', h', X', e', ex, A', E', st⟩ := cloneA X hx hZ hown w1 w2 w3 w4 w5 w6 eT A E FC hg hsize hs hd hf hW hl (by rw [S]; exact hcap) hc hsl
  exact ⟨T', h', X', e', ex, ⟨cloneOf cl, A', S, M, H⟩, E', st⟩
end Clone
theorem own_sub {i n : Nat} (h : n ≤ i) (hi : i < 2 ^ 31) : Int32.ofNat i - Int32.ofNat n = Int32.ofNat (i - n) :=
  own_eqNat (by rw [Jvm.Kit.i32_sub (by rw [own_nat (by omega), own_nat (by omega)]; omega) (by rw [own_nat (by omega), own_nat (by omega)]; omega), own_nat (by omega), own_nat (by omega)]; omega)
end Jvm.RoadKit
namespace Jvm.RoadKit
open Sem ClassFile Op Lib Jvm.Stand Jvm.Free Jvm.LawKit
theorem own_stak {Z : State} {h h' : Heap} {C n d D : String} {v : Value} {a : Addr} (F : Sta Z h C n d v) (K : Keep h h' [a]) (E : Exa Z h a D) : Sta Z h' C n d v := by
  obtain ⟨cf, i, k, f, st, cell, h1, h2, h3, h4, h5, h6, h7⟩ := F
  obtain ⟨cell', k', e1, -, -, e4, -⟩ := E
  have ne : st ≠ a := fun q => by
    subst q
    cases h5.symm.trans e1
    rw [e4] at h6
    cases h6
  exact ⟨cf, i, k, f, st, cell, h1, h2, h3, h4, K.2.1 _ _ h5 (ninS ne nin0), h6, h7⟩
end Jvm.RoadKit
namespace Jvm.Pilot.@@N@@
open Jvm Jvm.ClassFile Sem Op Lib Jvm.Free Jvm.Stand Jvm.LawKit Jvm.RoadKit Bundle Jvm.Pilot.@@N@@.Jvm.D
theorem pd_0 : parseMethodDescriptor "(I)Z" = some ⟨[.int], some .boolean⟩ := by decide +kernel
theorem d1_0 : decode prog_103_method_2_code 0 = .ok (.iload_n 0, 1) := by decide +kernel
theorem d1_1 : decode prog_103_method_2_code 1 = .ok (.lookupswitch 120 #[(0, 115), (36, 115), (40, 115), (41, 115), (42, 115), (43, 115), (46, 115), (63, 115), (91, 115), (92, 115), (94, 115), (123, 115), (124, 115)], 115) := by decide +kernel
theorem d1_116 : decode prog_103_method_2_code 116 = .ok (.iconst 0, 1) := by decide +kernel
theorem d1_117 : decode prog_103_method_2_code 117 = .ok (.istore_n 1, 1) := by decide +kernel
theorem d1_118 : decode prog_103_method_2_code 118 = .ok (.goto 5, 3) := by decide +kernel
theorem d1_121 : decode prog_103_method_2_code 121 = .ok (.iconst 1, 1) := by decide +kernel
theorem d1_122 : decode prog_103_method_2_code 122 = .ok (.istore_n 1, 1) := by decide +kernel
theorem d1_123 : decode prog_103_method_2_code 123 = .ok (.iload_n 1, 1) := by decide +kernel
theorem d1_124 : decode prog_103_method_2_code 124 = .ok (.ireturn, 1) := by decide +kernel
theorem pn_1 : plainName "com/example/brisk_sieve/brisksieve/text/RegexChars" = true := by first | (simp [plainName, overriddenIn]; done) | decide +kernel
theorem ef_rm1 (m : MethodId) (x0 : Int32) : entryFrame m #[(.int x0)] 2 = mkF m 0 #[.val (.int x0), .unset] [] := by first | (simp [entryFrame, mkF, argsToLocals, Value.category]; done) | rfl
def f1 (p0 : Int32) : Int32 := (if p0 = (0 : Int32) then (0 : Int32) else (if p0 = (36 : Int32) then (0 : Int32) else (if p0 = (40 : Int32) then (0 : Int32) else (if p0 = (41 : Int32) then (0 : Int32) else (if p0 = (42 : Int32) then (0 : Int32) else (if p0 = (43 : Int32) then (0 : Int32) else (if p0 = (46 : Int32) then (0 : Int32) else (if p0 = (63 : Int32) then (0 : Int32) else (if p0 = (91 : Int32) then (0 : Int32) else (if p0 = (92 : Int32) then (0 : Int32) else (if p0 = (94 : Int32) then (0 : Int32) else (if p0 = (123 : Int32) then (0 : Int32) else (if p0 = (124 : Int32) then (0 : Int32) else (1 : Int32))))))))))))))
set_option maxRecDepth 65536 in
set_option maxHeartbeats 40000000 in
theorem rm1 (l : Launch) (Z : State) (a0 : Array Value) (hw : ∀ d ∈ tables_1, d.before a0 Z = true) (ws : List Jvm.Cond) (p0 : Int32) (h0 : Heap) (n0 : Nat) (Z0 : n0 ≤ h0.size) :
    MetFree l (⟨"com/example/brisk_sieve/brisksieve/text/RegexChars", "isPlain", "(I)Z"⟩ : MethodName) (head1 (Jvm.Cond.code (⟨"com/example/brisk_sieve/brisksieve/text/RegexChars", "isPlain", "(I)Z"⟩ : MethodName) prog_103_method_2_code 2 (some .boolean) :: ws) ({ frames := 0, cells := 0, slots := 0, locals := 0 } : Room)) (fun a U => a = #[(.int p0)] ∧ Z.Warmed39 U.vm ∧ U.heap = h0) (fun _ _ _ _ _ => True) (fun _ U o U' => ∃ v L, o = .returned v ∧ Qp (.int (f1 p0)) h0 n0 v U'.heap L ∧ FrameEnd U o U' L ({ frames := 0, cells := 0, slots := 0, locals := 0 } : Room).cells ({ frames := 0, cells := 0, slots := 0, locals := 0 } : Room).slots) := by
  refine MetFree.of_bodySF (plainFor_of_name pn_1) hisR ?_
  intro p e s m args below meth c s₁ Bd hml0 hP hK
  obtain ⟨rfl, hZ, hh⟩ := hP
  have hx := Bd.exec
  have hby := Bd.bytes
  have hml : c.maxLocals = 2 := hml0
  have hown : s.vm.findClass "com/example/brisk_sieve/brisksieve/text/RegexChars" = some m.cls := findClass_of_methodNamed Bd.named
  have hnm := (name_of_methodNamed Bd.named Bd.method).1
  have hlk : meth.locks = false := BodyLoose.notSynchronized Bd
  have X0 : Stand p l e ({ frames := 0, cells := 0, slots := 0, locals := 0 } : Room) s m #[(.int p0)] below meth c s₁ [] 0 0 := Stand.of_body Bd
  have e0 : s₁.heap = h0 := by rw [← hh, Bd.state]; rfl
  have N0 := Fr.nil n0
  have K0 : Keep h0 h0 [] := Keep.refl _ _
  show Goes p e below s (Qp (.int (f1 p0)) h0 n0) ({ frames := 0, cells := 0, slots := 0, locals := 0 } : Room).cells ({ frames := 0, cells := 0, slots := 0, locals := 0 } : Room).slots (s₁.setTop (entryFrame m #[(.int p0)] 2))
  rw [ef_rm1]
  show Goes p e below s _ _ _ (s₁.setTop (mkF m 0 #[.val (.int p0), .unset] []))
  refine Goes.go (fun _ k => XS.iloadN X0.here hx rfl (hb hby d1_0) rfl  k) ?_
  show Goes p e below s _ _ _ (s₁.setTop (mkF m 1 #[.val (.int p0), .unset] [(.int p0)]))
  by_cases hk1_1 : p0 = (0 : Int32)
  · skip
    refine Goes.qi (if_pos hk1_1) ?_
    refine Goes.go (own_lswH X0 hx (g := (mkF m 1 #[.val (.int p0), .unset] [(.int p0)])) rfl (pc0 := 1) (pc' := 116) rfl rfl (hb hby d1_1) (by decide) (a := 0) (off := 115) (by rw [hk1_1]; decide +kernel) (by decide) (by decide)) ?_
    show Goes p e below s _ _ _ (s₁.setTop (mkF m 116 #[.val (.int p0), .unset] []))
    refine Goes.go (fun _ k => XS.iconst X0.here hx rfl (hb hby d1_116) k) ?_
    show Goes p e below s _ _ _ (s₁.setTop (mkF m 117 #[.val (.int p0), .unset] [(.int (0 : Int32))]))
    refine Goes.go (fun _ k => XS.istoreN X0.here hx rfl (hb hby d1_117) rfl (l' := #[.val (.int p0), .val (.int (0 : Int32))]) rfl k) ?_
    show Goes p e below s _ _ _ (s₁.setTop (mkF m 118 #[.val (.int p0), .val (.int (0 : Int32))] []))
    refine Goes.go (fun _ k => XS.goto X0.here hx rfl (pc0 := 118) (pc' := 123) rfl (hb hby d1_118) (by decide) (by decide) k) ?_
    show Goes p e below s _ _ _ (s₁.setTop (mkF m 123 #[.val (.int p0), .val (.int (0 : Int32))] []))
    refine Goes.go (fun _ k => XS.iloadN X0.here hx rfl (hb hby d1_123) rfl  k) ?_
    show Goes p e below s _ _ _ (s₁.setTop (mkF m 124 #[.val (.int p0), .val (.int (0 : Int32))] [(.int (0 : Int32))]))
    refine Goes.retN .boolean X0 hx hlk Bd.returns (by simp) (hb hby d1_124) ?_ (by decide) (by decide)
    exact ⟨by rfl, N0, e0⟩
  · skip
    refine Goes.qi (if_neg hk1_1) ?_
    by_cases hk1_2 : p0 = (36 : Int32)
    · skip
      refine Goes.qi (if_pos hk1_2) ?_
      refine Goes.go (own_lswH X0 hx (g := (mkF m 1 #[.val (.int p0), .unset] [(.int p0)])) rfl (pc0 := 1) (pc' := 116) rfl rfl (hb hby d1_1) (by decide) (a := 36) (off := 115) (by rw [hk1_2]; decide +kernel) (by decide) (by decide)) ?_
      show Goes p e below s _ _ _ (s₁.setTop (mkF m 116 #[.val (.int p0), .unset] []))
      refine Goes.go (fun _ k => XS.iconst X0.here hx rfl (hb hby d1_116) k) ?_
      show Goes p e below s _ _ _ (s₁.setTop (mkF m 117 #[.val (.int p0), .unset] [(.int (0 : Int32))]))
      refine Goes.go (fun _ k => XS.istoreN X0.here hx rfl (hb hby d1_117) rfl (l' := #[.val (.int p0), .val (.int (0 : Int32))]) rfl k) ?_
      show Goes p e below s _ _ _ (s₁.setTop (mkF m 118 #[.val (.int p0), .val (.int (0 : Int32))] []))
      refine Goes.go (fun _ k => XS.goto X0.here hx rfl (pc0 := 118) (pc' := 123) rfl (hb hby d1_118) (by decide) (by decide) k) ?_
      show Goes p e below s _ _ _ (s₁.setTop (mkF m 123 #[.val (.int p0), .val (.int (0 : Int32))] []))
      refine Goes.go (fun _ k => XS.iloadN X0.here hx rfl (hb hby d1_123) rfl  k) ?_
      show Goes p e below s _ _ _ (s₁.setTop (mkF m 124 #[.val (.int p0), .val (.int (0 : Int32))] [(.int (0 : Int32))]))
      refine Goes.retN .boolean X0 hx hlk Bd.returns (by simp) (hb hby d1_124) ?_ (by decide) (by decide)
      exact ⟨by rfl, N0, e0⟩
    · skip
      refine Goes.qi (if_neg hk1_2) ?_
      by_cases hk1_3 : p0 = (40 : Int32)
      · skip
        refine Goes.qi (if_pos hk1_3) ?_
        refine Goes.go (own_lswH X0 hx (g := (mkF m 1 #[.val (.int p0), .unset] [(.int p0)])) rfl (pc0 := 1) (pc' := 116) rfl rfl (hb hby d1_1) (by decide) (a := 40) (off := 115) (by rw [hk1_3]; decide +kernel) (by decide) (by decide)) ?_
        show Goes p e below s _ _ _ (s₁.setTop (mkF m 116 #[.val (.int p0), .unset] []))
        refine Goes.go (fun _ k => XS.iconst X0.here hx rfl (hb hby d1_116) k) ?_
        show Goes p e below s _ _ _ (s₁.setTop (mkF m 117 #[.val (.int p0), .unset] [(.int (0 : Int32))]))
        refine Goes.go (fun _ k => XS.istoreN X0.here hx rfl (hb hby d1_117) rfl (l' := #[.val (.int p0), .val (.int (0 : Int32))]) rfl k) ?_
        show Goes p e below s _ _ _ (s₁.setTop (mkF m 118 #[.val (.int p0), .val (.int (0 : Int32))] []))
        refine Goes.go (fun _ k => XS.goto X0.here hx rfl (pc0 := 118) (pc' := 123) rfl (hb hby d1_118) (by decide) (by decide) k) ?_
        show Goes p e below s _ _ _ (s₁.setTop (mkF m 123 #[.val (.int p0), .val (.int (0 : Int32))] []))
        refine Goes.go (fun _ k => XS.iloadN X0.here hx rfl (hb hby d1_123) rfl  k) ?_
        show Goes p e below s _ _ _ (s₁.setTop (mkF m 124 #[.val (.int p0), .val (.int (0 : Int32))] [(.int (0 : Int32))]))
        refine Goes.retN .boolean X0 hx hlk Bd.returns (by simp) (hb hby d1_124) ?_ (by decide) (by decide)
        exact ⟨by rfl, N0, e0⟩
      · skip
        refine Goes.qi (if_neg hk1_3) ?_
        by_cases hk1_4 : p0 = (41 : Int32)
        · skip
          refine Goes.qi (if_pos hk1_4) ?_
          refine Goes.go (own_lswH X0 hx (g := (mkF m 1 #[.val (.int p0), .unset] [(.int p0)])) rfl (pc0 := 1) (pc' := 116) rfl rfl (hb hby d1_1) (by decide) (a := 41) (off := 115) (by rw [hk1_4]; decide +kernel) (by decide) (by decide)) ?_
          show Goes p e below s _ _ _ (s₁.setTop (mkF m 116 #[.val (.int p0), .unset] []))
          refine Goes.go (fun _ k => XS.iconst X0.here hx rfl (hb hby d1_116) k) ?_
          show Goes p e below s _ _ _ (s₁.setTop (mkF m 117 #[.val (.int p0), .unset] [(.int (0 : Int32))]))
          refine Goes.go (fun _ k => XS.istoreN X0.here hx rfl (hb hby d1_117) rfl (l' := #[.val (.int p0), .val (.int (0 : Int32))]) rfl k) ?_
          show Goes p e below s _ _ _ (s₁.setTop (mkF m 118 #[.val (.int p0), .val (.int (0 : Int32))] []))
          refine Goes.go (fun _ k => XS.goto X0.here hx rfl (pc0 := 118) (pc' := 123) rfl (hb hby d1_118) (by decide) (by decide) k) ?_
          show Goes p e below s _ _ _ (s₁.setTop (mkF m 123 #[.val (.int p0), .val (.int (0 : Int32))] []))
          refine Goes.go (fun _ k => XS.iloadN X0.here hx rfl (hb hby d1_123) rfl  k) ?_
          show Goes p e below s _ _ _ (s₁.setTop (mkF m 124 #[.val (.int p0), .val (.int (0 : Int32))] [(.int (0 : Int32))]))
          refine Goes.retN .boolean X0 hx hlk Bd.returns (by simp) (hb hby d1_124) ?_ (by decide) (by decide)
          exact ⟨by rfl, N0, e0⟩
        · skip
          refine Goes.qi (if_neg hk1_4) ?_
          by_cases hk1_5 : p0 = (42 : Int32)
          · skip
            refine Goes.qi (if_pos hk1_5) ?_
            refine Goes.go (own_lswH X0 hx (g := (mkF m 1 #[.val (.int p0), .unset] [(.int p0)])) rfl (pc0 := 1) (pc' := 116) rfl rfl (hb hby d1_1) (by decide) (a := 42) (off := 115) (by rw [hk1_5]; decide +kernel) (by decide) (by decide)) ?_
            show Goes p e below s _ _ _ (s₁.setTop (mkF m 116 #[.val (.int p0), .unset] []))
            refine Goes.go (fun _ k => XS.iconst X0.here hx rfl (hb hby d1_116) k) ?_
            show Goes p e below s _ _ _ (s₁.setTop (mkF m 117 #[.val (.int p0), .unset] [(.int (0 : Int32))]))
            refine Goes.go (fun _ k => XS.istoreN X0.here hx rfl (hb hby d1_117) rfl (l' := #[.val (.int p0), .val (.int (0 : Int32))]) rfl k) ?_
            show Goes p e below s _ _ _ (s₁.setTop (mkF m 118 #[.val (.int p0), .val (.int (0 : Int32))] []))
            refine Goes.go (fun _ k => XS.goto X0.here hx rfl (pc0 := 118) (pc' := 123) rfl (hb hby d1_118) (by decide) (by decide) k) ?_
            show Goes p e below s _ _ _ (s₁.setTop (mkF m 123 #[.val (.int p0), .val (.int (0 : Int32))] []))
            refine Goes.go (fun _ k => XS.iloadN X0.here hx rfl (hb hby d1_123) rfl  k) ?_
            show Goes p e below s _ _ _ (s₁.setTop (mkF m 124 #[.val (.int p0), .val (.int (0 : Int32))] [(.int (0 : Int32))]))
            refine Goes.retN .boolean X0 hx hlk Bd.returns (by simp) (hb hby d1_124) ?_ (by decide) (by decide)
            exact ⟨by rfl, N0, e0⟩
          · skip
            refine Goes.qi (if_neg hk1_5) ?_
            by_cases hk1_6 : p0 = (43 : Int32)
            · skip
              refine Goes.qi (if_pos hk1_6) ?_
              refine Goes.go (own_lswH X0 hx (g := (mkF m 1 #[.val (.int p0), .unset] [(.int p0)])) rfl (pc0 := 1) (pc' := 116) rfl rfl (hb hby d1_1) (by decide) (a := 43) (off := 115) (by rw [hk1_6]; decide +kernel) (by decide) (by decide)) ?_
              show Goes p e below s _ _ _ (s₁.setTop (mkF m 116 #[.val (.int p0), .unset] []))
              refine Goes.go (fun _ k => XS.iconst X0.here hx rfl (hb hby d1_116) k) ?_
              show Goes p e below s _ _ _ (s₁.setTop (mkF m 117 #[.val (.int p0), .unset] [(.int (0 : Int32))]))
              refine Goes.go (fun _ k => XS.istoreN X0.here hx rfl (hb hby d1_117) rfl (l' := #[.val (.int p0), .val (.int (0 : Int32))]) rfl k) ?_
              show Goes p e below s _ _ _ (s₁.setTop (mkF m 118 #[.val (.int p0), .val (.int (0 : Int32))] []))
              refine Goes.go (fun _ k => XS.goto X0.here hx rfl (pc0 := 118) (pc' := 123) rfl (hb hby d1_118) (by decide) (by decide) k) ?_
              show Goes p e below s _ _ _ (s₁.setTop (mkF m 123 #[.val (.int p0), .val (.int (0 : Int32))] []))
              refine Goes.go (fun _ k => XS.iloadN X0.here hx rfl (hb hby d1_123) rfl  k) ?_
              show Goes p e below s _ _ _ (s₁.setTop (mkF m 124 #[.val (.int p0), .val (.int (0 : Int32))] [(.int (0 : Int32))]))
              refine Goes.retN .boolean X0 hx hlk Bd.returns (by simp) (hb hby d1_124) ?_ (by decide) (by decide)
              exact ⟨by rfl, N0, e0⟩
            · skip
              refine Goes.qi (if_neg hk1_6) ?_
              by_cases hk1_7 : p0 = (46 : Int32)
              · skip
                refine Goes.qi (if_pos hk1_7) ?_
                refine Goes.go (own_lswH X0 hx (g := (mkF m 1 #[.val (.int p0), .unset] [(.int p0)])) rfl (pc0 := 1) (pc' := 116) rfl rfl (hb hby d1_1) (by decide) (a := 46) (off := 115) (by rw [hk1_7]; decide +kernel) (by decide) (by decide)) ?_
                show Goes p e below s _ _ _ (s₁.setTop (mkF m 116 #[.val (.int p0), .unset] []))
                refine Goes.go (fun _ k => XS.iconst X0.here hx rfl (hb hby d1_116) k) ?_
                show Goes p e below s _ _ _ (s₁.setTop (mkF m 117 #[.val (.int p0), .unset] [(.int (0 : Int32))]))
                refine Goes.go (fun _ k => XS.istoreN X0.here hx rfl (hb hby d1_117) rfl (l' := #[.val (.int p0), .val (.int (0 : Int32))]) rfl k) ?_
                show Goes p e below s _ _ _ (s₁.setTop (mkF m 118 #[.val (.int p0), .val (.int (0 : Int32))] []))
                refine Goes.go (fun _ k => XS.goto X0.here hx rfl (pc0 := 118) (pc' := 123) rfl (hb hby d1_118) (by decide) (by decide) k) ?_
                show Goes p e below s _ _ _ (s₁.setTop (mkF m 123 #[.val (.int p0), .val (.int (0 : Int32))] []))
                refine Goes.go (fun _ k => XS.iloadN X0.here hx rfl (hb hby d1_123) rfl  k) ?_
                show Goes p e below s _ _ _ (s₁.setTop (mkF m 124 #[.val (.int p0), .val (.int (0 : Int32))] [(.int (0 : Int32))]))
                refine Goes.retN .boolean X0 hx hlk Bd.returns (by simp) (hb hby d1_124) ?_ (by decide) (by decide)
                exact ⟨by rfl, N0, e0⟩
              · skip
                refine Goes.qi (if_neg hk1_7) ?_
                by_cases hk1_8 : p0 = (63 : Int32)
                · skip
                  refine Goes.qi (if_pos hk1_8) ?_
                  refine Goes.go (own_lswH X0 hx (g := (mkF m 1 #[.val (.int p0), .unset] [(.int p0)])) rfl (pc0 := 1) (pc' := 116) rfl rfl (hb hby d1_1) (by decide) (a := 63) (off := 115) (by rw [hk1_8]; decide +kernel) (by decide) (by decide)) ?_
                  show Goes p e below s _ _ _ (s₁.setTop (mkF m 116 #[.val (.int p0), .unset] []))
                  refine Goes.go (fun _ k => XS.iconst X0.here hx rfl (hb hby d1_116) k) ?_
                  show Goes p e below s _ _ _ (s₁.setTop (mkF m 117 #[.val (.int p0), .unset] [(.int (0 : Int32))]))
                  refine Goes.go (fun _ k => XS.istoreN X0.here hx rfl (hb hby d1_117) rfl (l' := #[.val (.int p0), .val (.int (0 : Int32))]) rfl k) ?_
                  show Goes p e below s _ _ _ (s₁.setTop (mkF m 118 #[.val (.int p0), .val (.int (0 : Int32))] []))
                  refine Goes.go (fun _ k => XS.goto X0.here hx rfl (pc0 := 118) (pc' := 123) rfl (hb hby d1_118) (by decide) (by decide) k) ?_
                  show Goes p e below s _ _ _ (s₁.setTop (mkF m 123 #[.val (.int p0), .val (.int (0 : Int32))] []))
                  refine Goes.go (fun _ k => XS.iloadN X0.here hx rfl (hb hby d1_123) rfl  k) ?_
                  show Goes p e below s _ _ _ (s₁.setTop (mkF m 124 #[.val (.int p0), .val (.int (0 : Int32))] [(.int (0 : Int32))]))
                  refine Goes.retN .boolean X0 hx hlk Bd.returns (by simp) (hb hby d1_124) ?_ (by decide) (by decide)
                  exact ⟨by rfl, N0, e0⟩
                · skip
                  refine Goes.qi (if_neg hk1_8) ?_
                  by_cases hk1_9 : p0 = (91 : Int32)
                  · skip
                    refine Goes.qi (if_pos hk1_9) ?_
                    refine Goes.go (own_lswH X0 hx (g := (mkF m 1 #[.val (.int p0), .unset] [(.int p0)])) rfl (pc0 := 1) (pc' := 116) rfl rfl (hb hby d1_1) (by decide) (a := 91) (off := 115) (by rw [hk1_9]; decide +kernel) (by decide) (by decide)) ?_
                    show Goes p e below s _ _ _ (s₁.setTop (mkF m 116 #[.val (.int p0), .unset] []))
                    refine Goes.go (fun _ k => XS.iconst X0.here hx rfl (hb hby d1_116) k) ?_
                    show Goes p e below s _ _ _ (s₁.setTop (mkF m 117 #[.val (.int p0), .unset] [(.int (0 : Int32))]))
                    refine Goes.go (fun _ k => XS.istoreN X0.here hx rfl (hb hby d1_117) rfl (l' := #[.val (.int p0), .val (.int (0 : Int32))]) rfl k) ?_
                    show Goes p e below s _ _ _ (s₁.setTop (mkF m 118 #[.val (.int p0), .val (.int (0 : Int32))] []))
                    refine Goes.go (fun _ k => XS.goto X0.here hx rfl (pc0 := 118) (pc' := 123) rfl (hb hby d1_118) (by decide) (by decide) k) ?_
                    show Goes p e below s _ _ _ (s₁.setTop (mkF m 123 #[.val (.int p0), .val (.int (0 : Int32))] []))
                    refine Goes.go (fun _ k => XS.iloadN X0.here hx rfl (hb hby d1_123) rfl  k) ?_
                    show Goes p e below s _ _ _ (s₁.setTop (mkF m 124 #[.val (.int p0), .val (.int (0 : Int32))] [(.int (0 : Int32))]))
                    refine Goes.retN .boolean X0 hx hlk Bd.returns (by simp) (hb hby d1_124) ?_ (by decide) (by decide)
                    exact ⟨by rfl, N0, e0⟩
                  · skip
                    refine Goes.qi (if_neg hk1_9) ?_
                    by_cases hk1_10 : p0 = (92 : Int32)
                    · skip
                      refine Goes.qi (if_pos hk1_10) ?_
                      refine Goes.go (own_lswH X0 hx (g := (mkF m 1 #[.val (.int p0), .unset] [(.int p0)])) rfl (pc0 := 1) (pc' := 116) rfl rfl (hb hby d1_1) (by decide) (a := 92) (off := 115) (by rw [hk1_10]; decide +kernel) (by decide) (by decide)) ?_
                      show Goes p e below s _ _ _ (s₁.setTop (mkF m 116 #[.val (.int p0), .unset] []))
                      refine Goes.go (fun _ k => XS.iconst X0.here hx rfl (hb hby d1_116) k) ?_
                      show Goes p e below s _ _ _ (s₁.setTop (mkF m 117 #[.val (.int p0), .unset] [(.int (0 : Int32))]))
                      refine Goes.go (fun _ k => XS.istoreN X0.here hx rfl (hb hby d1_117) rfl (l' := #[.val (.int p0), .val (.int (0 : Int32))]) rfl k) ?_
                      show Goes p e below s _ _ _ (s₁.setTop (mkF m 118 #[.val (.int p0), .val (.int (0 : Int32))] []))
                      refine Goes.go (fun _ k => XS.goto X0.here hx rfl (pc0 := 118) (pc' := 123) rfl (hb hby d1_118) (by decide) (by decide) k) ?_
                      show Goes p e below s _ _ _ (s₁.setTop (mkF m 123 #[.val (.int p0), .val (.int (0 : Int32))] []))
                      refine Goes.go (fun _ k => XS.iloadN X0.here hx rfl (hb hby d1_123) rfl  k) ?_
                      show Goes p e below s _ _ _ (s₁.setTop (mkF m 124 #[.val (.int p0), .val (.int (0 : Int32))] [(.int (0 : Int32))]))
                      refine Goes.retN .boolean X0 hx hlk Bd.returns (by simp) (hb hby d1_124) ?_ (by decide) (by decide)
                      exact ⟨by rfl, N0, e0⟩
                    · skip
                      refine Goes.qi (if_neg hk1_10) ?_
                      by_cases hk1_11 : p0 = (94 : Int32)
                      · skip
                        refine Goes.qi (if_pos hk1_11) ?_
                        refine Goes.go (own_lswH X0 hx (g := (mkF m 1 #[.val (.int p0), .unset] [(.int p0)])) rfl (pc0 := 1) (pc' := 116) rfl rfl (hb hby d1_1) (by decide) (a := 94) (off := 115) (by rw [hk1_11]; decide +kernel) (by decide) (by decide)) ?_
                        show Goes p e below s _ _ _ (s₁.setTop (mkF m 116 #[.val (.int p0), .unset] []))
                        refine Goes.go (fun _ k => XS.iconst X0.here hx rfl (hb hby d1_116) k) ?_
                        show Goes p e below s _ _ _ (s₁.setTop (mkF m 117 #[.val (.int p0), .unset] [(.int (0 : Int32))]))
                        refine Goes.go (fun _ k => XS.istoreN X0.here hx rfl (hb hby d1_117) rfl (l' := #[.val (.int p0), .val (.int (0 : Int32))]) rfl k) ?_
                        show Goes p e below s _ _ _ (s₁.setTop (mkF m 118 #[.val (.int p0), .val (.int (0 : Int32))] []))
                        refine Goes.go (fun _ k => XS.goto X0.here hx rfl (pc0 := 118) (pc' := 123) rfl (hb hby d1_118) (by decide) (by decide) k) ?_
                        show Goes p e below s _ _ _ (s₁.setTop (mkF m 123 #[.val (.int p0), .val (.int (0 : Int32))] []))
                        refine Goes.go (fun _ k => XS.iloadN X0.here hx rfl (hb hby d1_123) rfl  k) ?_
                        show Goes p e below s _ _ _ (s₁.setTop (mkF m 124 #[.val (.int p0), .val (.int (0 : Int32))] [(.int (0 : Int32))]))
                        refine Goes.retN .boolean X0 hx hlk Bd.returns (by simp) (hb hby d1_124) ?_ (by decide) (by decide)
                        exact ⟨by rfl, N0, e0⟩
                      · skip
                        refine Goes.qi (if_neg hk1_11) ?_
                        by_cases hk1_12 : p0 = (123 : Int32)
                        · skip
                          refine Goes.qi (if_pos hk1_12) ?_
                          refine Goes.go (own_lswH X0 hx (g := (mkF m 1 #[.val (.int p0), .unset] [(.int p0)])) rfl (pc0 := 1) (pc' := 116) rfl rfl (hb hby d1_1) (by decide) (a := 123) (off := 115) (by rw [hk1_12]; decide +kernel) (by decide) (by decide)) ?_
                          show Goes p e below s _ _ _ (s₁.setTop (mkF m 116 #[.val (.int p0), .unset] []))
                          refine Goes.go (fun _ k => XS.iconst X0.here hx rfl (hb hby d1_116) k) ?_
                          show Goes p e below s _ _ _ (s₁.setTop (mkF m 117 #[.val (.int p0), .unset] [(.int (0 : Int32))]))
                          refine Goes.go (fun _ k => XS.istoreN X0.here hx rfl (hb hby d1_117) rfl (l' := #[.val (.int p0), .val (.int (0 : Int32))]) rfl k) ?_
                          show Goes p e below s _ _ _ (s₁.setTop (mkF m 118 #[.val (.int p0), .val (.int (0 : Int32))] []))
                          refine Goes.go (fun _ k => XS.goto X0.here hx rfl (pc0 := 118) (pc' := 123) rfl (hb hby d1_118) (by decide) (by decide) k) ?_
                          show Goes p e below s _ _ _ (s₁.setTop (mkF m 123 #[.val (.int p0), .val (.int (0 : Int32))] []))
                          refine Goes.go (fun _ k => XS.iloadN X0.here hx rfl (hb hby d1_123) rfl  k) ?_
                          show Goes p e below s _ _ _ (s₁.setTop (mkF m 124 #[.val (.int p0), .val (.int (0 : Int32))] [(.int (0 : Int32))]))
                          refine Goes.retN .boolean X0 hx hlk Bd.returns (by simp) (hb hby d1_124) ?_ (by decide) (by decide)
                          exact ⟨by rfl, N0, e0⟩
                        · skip
                          refine Goes.qi (if_neg hk1_12) ?_
                          by_cases hk1_13 : p0 = (124 : Int32)
                          · skip
                            refine Goes.qi (if_pos hk1_13) ?_
                            refine Goes.go (own_lswH X0 hx (g := (mkF m 1 #[.val (.int p0), .unset] [(.int p0)])) rfl (pc0 := 1) (pc' := 116) rfl rfl (hb hby d1_1) (by decide) (a := 124) (off := 115) (by rw [hk1_13]; decide +kernel) (by decide) (by decide)) ?_
                            show Goes p e below s _ _ _ (s₁.setTop (mkF m 116 #[.val (.int p0), .unset] []))
                            refine Goes.go (fun _ k => XS.iconst X0.here hx rfl (hb hby d1_116) k) ?_
                            show Goes p e below s _ _ _ (s₁.setTop (mkF m 117 #[.val (.int p0), .unset] [(.int (0 : Int32))]))
                            refine Goes.go (fun _ k => XS.istoreN X0.here hx rfl (hb hby d1_117) rfl (l' := #[.val (.int p0), .val (.int (0 : Int32))]) rfl k) ?_
                            show Goes p e below s _ _ _ (s₁.setTop (mkF m 118 #[.val (.int p0), .val (.int (0 : Int32))] []))
                            refine Goes.go (fun _ k => XS.goto X0.here hx rfl (pc0 := 118) (pc' := 123) rfl (hb hby d1_118) (by decide) (by decide) k) ?_
                            show Goes p e below s _ _ _ (s₁.setTop (mkF m 123 #[.val (.int p0), .val (.int (0 : Int32))] []))
                            refine Goes.go (fun _ k => XS.iloadN X0.here hx rfl (hb hby d1_123) rfl  k) ?_
                            show Goes p e below s _ _ _ (s₁.setTop (mkF m 124 #[.val (.int p0), .val (.int (0 : Int32))] [(.int (0 : Int32))]))
                            refine Goes.retN .boolean X0 hx hlk Bd.returns (by simp) (hb hby d1_124) ?_ (by decide) (by decide)
                            exact ⟨by rfl, N0, e0⟩
                          · skip
                            refine Goes.qi (if_neg hk1_13) ?_
                            refine Goes.go (own_lswM X0 hx (g := (mkF m 1 #[.val (.int p0), .unset] [(.int p0)])) rfl (pc0 := 1) (pc' := 121) rfl rfl (hb hby d1_1) (by decide) (by simp only [List.mem_cons, List.not_mem_nil, or_false, forall_eq_or_imp, forall_eq]; exact ⟨own_nk rfl hk1_1, own_nk rfl hk1_2, own_nk rfl hk1_3, own_nk rfl hk1_4, own_nk rfl hk1_5, own_nk rfl hk1_6, own_nk rfl hk1_7, own_nk rfl hk1_8, own_nk rfl hk1_9, own_nk rfl hk1_10, own_nk rfl hk1_11, own_nk rfl hk1_12, own_nk rfl hk1_13⟩) (by decide) (by decide)) ?_
                            show Goes p e below s _ _ _ (s₁.setTop (mkF m 121 #[.val (.int p0), .unset] []))
                            refine Goes.go (fun _ k => XS.iconst X0.here hx rfl (hb hby d1_121) k) ?_
                            show Goes p e below s _ _ _ (s₁.setTop (mkF m 122 #[.val (.int p0), .unset] [(.int (1 : Int32))]))
                            refine Goes.go (fun _ k => XS.istoreN X0.here hx rfl (hb hby d1_122) rfl (l' := #[.val (.int p0), .val (.int (1 : Int32))]) rfl k) ?_
                            show Goes p e below s _ _ _ (s₁.setTop (mkF m 123 #[.val (.int p0), .val (.int (1 : Int32))] []))
                            refine Goes.go (fun _ k => XS.iloadN X0.here hx rfl (hb hby d1_123) rfl  k) ?_
                            show Goes p e below s _ _ _ (s₁.setTop (mkF m 124 #[.val (.int p0), .val (.int (1 : Int32))] [(.int (1 : Int32))]))
                            refine Goes.retN .boolean X0 hx hlk Bd.returns (by simp) (hb hby d1_124) ?_ (by decide) (by decide)
                            exact ⟨by rfl, N0, e0⟩
theorem d3_0 : decode method_2_code 0 = .ok (.iload_n 0, 1) := by decide +kernel
theorem d3_1 : decode method_2_code 1 = .ok (.bipush 42, 2) := by decide +kernel
theorem d3_3 : decode method_2_code 3 = .ok (.if_icmp .eq 21, 3) := by decide +kernel
theorem d3_6 : decode method_2_code 6 = .ok (.iload_n 0, 1) := by decide +kernel
theorem d3_7 : decode method_2_code 7 = .ok (.bipush 43, 2) := by decide +kernel
theorem d3_9 : decode method_2_code 9 = .ok (.if_icmp .eq 15, 3) := by decide +kernel
theorem d3_12 : decode method_2_code 12 = .ok (.iload_n 0, 1) := by decide +kernel
theorem d3_13 : decode method_2_code 13 = .ok (.bipush 63, 2) := by decide +kernel
theorem d3_15 : decode method_2_code 15 = .ok (.if_icmp .eq 9, 3) := by decide +kernel
theorem d3_18 : decode method_2_code 18 = .ok (.iload_n 0, 1) := by decide +kernel
theorem d3_19 : decode method_2_code 19 = .ok (.bipush 123, 2) := by decide +kernel
theorem d3_21 : decode method_2_code 21 = .ok (.if_icmp .ne 7, 3) := by decide +kernel
theorem d3_24 : decode method_2_code 24 = .ok (.iconst 1, 1) := by decide +kernel
theorem d3_25 : decode method_2_code 25 = .ok (.goto 4, 3) := by decide +kernel
theorem d3_28 : decode method_2_code 28 = .ok (.iconst 0, 1) := by decide +kernel
theorem d3_29 : decode method_2_code 29 = .ok (.ireturn, 1) := by decide +kernel
theorem pn_3 : plainName "com/example/brisk_sieve/brisksieve/text/RegexCharsIsPlainPinLaw" = true := by first | (simp [plainName, overriddenIn]; done) | decide +kernel
theorem ef_rm3 (m : MethodId) (x0 : Int32) : entryFrame m #[(.int x0)] 1 = mkF m 0 #[.val (.int x0)] [] := by first | (simp [entryFrame, mkF, argsToLocals, Value.category]; done) | rfl
def f3 (p0 : Int32) : Int32 := (if p0 = (42 : Int32) then (1 : Int32) else (nar .boolean (if p0 = (43 : Int32) then (1 : Int32) else (if p0 = (63 : Int32) then (1 : Int32) else (if p0 = (123 : Int32) then (1 : Int32) else (0 : Int32))))))
set_option maxRecDepth 65536 in
set_option maxHeartbeats 40000000 in
theorem rm3 (l : Launch) (Z : State) (a0 : Array Value) (hw : ∀ d ∈ tables_1, d.before a0 Z = true) (ws : List Jvm.Cond) (p0 : Int32) (h0 : Heap) (n0 : Nat) (Z0 : n0 ≤ h0.size) :
    MetFree l (⟨"com/example/brisk_sieve/brisksieve/text/RegexCharsIsPlainPinLaw", "isQuantifier", "(I)Z"⟩ : MethodName) (head1 (Jvm.Cond.code (⟨"com/example/brisk_sieve/brisksieve/text/RegexCharsIsPlainPinLaw", "isQuantifier", "(I)Z"⟩ : MethodName) method_2_code 1 (some .boolean) :: ws) ({ frames := 0, cells := 0, slots := 0, locals := 0 } : Room)) (fun a U => a = #[(.int p0)] ∧ Z.Warmed39 U.vm ∧ U.heap = h0) (fun _ _ _ _ _ => True) (fun _ U o U' => ∃ v L, o = .returned v ∧ Qp (.int (f3 p0)) h0 n0 v U'.heap L ∧ FrameEnd U o U' L ({ frames := 0, cells := 0, slots := 0, locals := 0 } : Room).cells ({ frames := 0, cells := 0, slots := 0, locals := 0 } : Room).slots) := by
  refine MetFree.of_bodySF (plainFor_of_name pn_3) hisR ?_
  intro p e s m args below meth c s₁ Bd hml0 hP hK
  obtain ⟨rfl, hZ, hh⟩ := hP
  have hx := Bd.exec
  have hby := Bd.bytes
  have hml : c.maxLocals = 1 := hml0
  have hown : s.vm.findClass "com/example/brisk_sieve/brisksieve/text/RegexCharsIsPlainPinLaw" = some m.cls := findClass_of_methodNamed Bd.named
  have hnm := (name_of_methodNamed Bd.named Bd.method).1
  have hlk : meth.locks = false := BodyLoose.notSynchronized Bd
  have X0 : Stand p l e ({ frames := 0, cells := 0, slots := 0, locals := 0 } : Room) s m #[(.int p0)] below meth c s₁ [] 0 0 := Stand.of_body Bd
  have e0 : s₁.heap = h0 := by rw [← hh, Bd.state]; rfl
  have N0 := Fr.nil n0
  have K0 : Keep h0 h0 [] := Keep.refl _ _
  show Goes p e below s (Qp (.int (f3 p0)) h0 n0) ({ frames := 0, cells := 0, slots := 0, locals := 0 } : Room).cells ({ frames := 0, cells := 0, slots := 0, locals := 0 } : Room).slots (s₁.setTop (entryFrame m #[(.int p0)] 1))
  rw [ef_rm3]
  show Goes p e below s _ _ _ (s₁.setTop (mkF m 0 #[.val (.int p0)] []))
  refine Goes.go (fun _ k => XS.iloadN X0.here hx rfl (hb hby d3_0) rfl  k) ?_
  show Goes p e below s _ _ _ (s₁.setTop (mkF m 1 #[.val (.int p0)] [(.int p0)]))
  refine Goes.go (fun _ k => XS.bipush X0.here hx rfl (hb hby d3_1) k) ?_
  show Goes p e below s _ _ _ (s₁.setTop (mkF m 3 #[.val (.int p0)] [(.int (42 : Int32)), (.int p0)]))
  by_cases hc3_1 : p0 = (42 : Int32)
  · skip
    refine Goes.qi (if_pos hc3_1) ?_
    refine Goes.go (fun _ k => XS.icmpYes X0.here hx rfl (pc0 := 3) (pc' := 24) rfl (hb hby d3_3) rfl (teq hc3_1).1 (by decide) (by decide) k) ?_
    show Goes p e below s _ _ _ (s₁.setTop (mkF m 24 #[.val (.int p0)] []))
    refine Goes.go (fun _ k => XS.iconst X0.here hx rfl (hb hby d3_24) k) ?_
    show Goes p e below s _ _ _ (s₁.setTop (mkF m 25 #[.val (.int p0)] [(.int (1 : Int32))]))
    refine Goes.go (fun _ k => XS.goto X0.here hx rfl (pc0 := 25) (pc' := 29) rfl (hb hby d3_25) (by decide) (by decide) k) ?_
    show Goes p e below s _ _ _ (s₁.setTop (mkF m 29 #[.val (.int p0)] [(.int (1 : Int32))]))
    refine Goes.retN .boolean X0 hx hlk Bd.returns (by simp) (hb hby d3_29) ?_ (by decide) (by decide)
    exact ⟨by rfl, N0, e0⟩
  · skip
    refine Goes.qi (if_neg hc3_1) ?_
    refine Goes.go (fun _ k => XS.icmpNo X0.here hx rfl (hb hby d3_3) rfl (feq hc3_1).1 k) ?_
    show Goes p e below s _ _ _ (s₁.setTop (mkF m 6 #[.val (.int p0)] []))
    refine Goes.go (fun _ k => XS.iloadN X0.here hx rfl (hb hby d3_6) rfl  k) ?_
    show Goes p e below s _ _ _ (s₁.setTop (mkF m 7 #[.val (.int p0)] [(.int p0)]))
    refine Goes.go (fun _ k => XS.bipush X0.here hx rfl (hb hby d3_7) k) ?_
    show Goes p e below s _ _ _ (s₁.setTop (mkF m 9 #[.val (.int p0)] [(.int (43 : Int32)), (.int p0)]))
    obtain ⟨z2_s0, hz2_s0⟩ : ∃ z : Int32, z = if p0 = (43 : Int32) then (1 : Int32) else (if p0 = (63 : Int32) then (1 : Int32) else (if p0 = (123 : Int32) then (1 : Int32) else (0 : Int32))) := ⟨_, rfl⟩
    have sm2 : ∀ t, Steps p.tables e below (s₁.setTop (mkF m 29 #[.val (.int p0)] [(.int z2_s0)])) t → Steps p.tables e below (s₁.setTop (mkF m 9 #[.val (.int p0)] [(.int (43 : Int32)), (.int p0)])) t := by
      intro t k
      by_cases hc9_2 : p0 = (43 : Int32)
      · have k2 : Steps p.tables e below (s₁.setTop (mkF m 29 #[.val (.int p0)] [(.int (1 : Int32))])) t := by simpa only [hz2_s0, if_pos hc9_2] using k
        show Steps p.tables e below (s₁.setTop (mkF m 9 #[.val (.int p0)] [(.int (43 : Int32)), (.int p0)])) _
        refine XS.icmpYes X0.here hx rfl (pc0 := 9) (pc' := 24) rfl (hb hby d3_9) rfl (teq hc9_2).1 (by decide) (by decide) ?_
        show Steps p.tables e below (s₁.setTop (mkF m 24 #[.val (.int p0)] [])) _
        refine XS.iconst X0.here hx rfl (hb hby d3_24) ?_
        show Steps p.tables e below (s₁.setTop (mkF m 25 #[.val (.int p0)] [(.int (1 : Int32))])) _
        refine XS.goto X0.here hx rfl (pc0 := 25) (pc' := 29) rfl (hb hby d3_25) (by decide) (by decide) ?_
        exact k2
      · have k2 : Steps p.tables e below (s₁.setTop (mkF m 29 #[.val (.int p0)] [(.int (if p0 = (63 : Int32) then (1 : Int32) else (if p0 = (123 : Int32) then (1 : Int32) else (0 : Int32))))])) t := by simpa only [hz2_s0, if_neg hc9_2] using k
        show Steps p.tables e below (s₁.setTop (mkF m 9 #[.val (.int p0)] [(.int (43 : Int32)), (.int p0)])) _
        refine XS.icmpNo X0.here hx rfl (hb hby d3_9) rfl (feq hc9_2).1 ?_
        show Steps p.tables e below (s₁.setTop (mkF m 12 #[.val (.int p0)] [])) _
        refine XS.iloadN X0.here hx rfl (hb hby d3_12) rfl  ?_
        show Steps p.tables e below (s₁.setTop (mkF m 13 #[.val (.int p0)] [(.int p0)])) _
        refine XS.bipush X0.here hx rfl (hb hby d3_13) ?_
        show Steps p.tables e below (s₁.setTop (mkF m 15 #[.val (.int p0)] [(.int (63 : Int32)), (.int p0)])) _
        have sm3 : ∀ t, Steps p.tables e below (s₁.setTop (mkF m 29 #[.val (.int p0)] [(.int (if p0 = (63 : Int32) then (1 : Int32) else (if p0 = (123 : Int32) then (1 : Int32) else (0 : Int32))))])) t → Steps p.tables e below (s₁.setTop (mkF m 15 #[.val (.int p0)] [(.int (63 : Int32)), (.int p0)])) t := by
          intro t k
          by_cases hc15_3 : p0 = (63 : Int32)
          · have k2 : Steps p.tables e below (s₁.setTop (mkF m 29 #[.val (.int p0)] [(.int (1 : Int32))])) t := by simpa only [if_pos hc15_3] using k
            show Steps p.tables e below (s₁.setTop (mkF m 15 #[.val (.int p0)] [(.int (63 : Int32)), (.int p0)])) _
            refine XS.icmpYes X0.here hx rfl (pc0 := 15) (pc' := 24) rfl (hb hby d3_15) rfl (teq hc15_3).1 (by decide) (by decide) ?_
            show Steps p.tables e below (s₁.setTop (mkF m 24 #[.val (.int p0)] [])) _
            refine XS.iconst X0.here hx rfl (hb hby d3_24) ?_
            show Steps p.tables e below (s₁.setTop (mkF m 25 #[.val (.int p0)] [(.int (1 : Int32))])) _
            refine XS.goto X0.here hx rfl (pc0 := 25) (pc' := 29) rfl (hb hby d3_25) (by decide) (by decide) ?_
            exact k2
          · have k2 : Steps p.tables e below (s₁.setTop (mkF m 29 #[.val (.int p0)] [(.int (if p0 = (123 : Int32) then (1 : Int32) else (0 : Int32)))])) t := by simpa only [if_neg hc15_3] using k
            show Steps p.tables e below (s₁.setTop (mkF m 15 #[.val (.int p0)] [(.int (63 : Int32)), (.int p0)])) _
            refine XS.icmpNo X0.here hx rfl (hb hby d3_15) rfl (feq hc15_3).1 ?_
            show Steps p.tables e below (s₁.setTop (mkF m 18 #[.val (.int p0)] [])) _
            refine XS.iloadN X0.here hx rfl (hb hby d3_18) rfl  ?_
            show Steps p.tables e below (s₁.setTop (mkF m 19 #[.val (.int p0)] [(.int p0)])) _
            refine XS.bipush X0.here hx rfl (hb hby d3_19) ?_
            show Steps p.tables e below (s₁.setTop (mkF m 21 #[.val (.int p0)] [(.int (123 : Int32)), (.int p0)])) _
            have sm4 : ∀ t, Steps p.tables e below (s₁.setTop (mkF m 29 #[.val (.int p0)] [(.int (if p0 = (123 : Int32) then (1 : Int32) else (0 : Int32)))])) t → Steps p.tables e below (s₁.setTop (mkF m 21 #[.val (.int p0)] [(.int (123 : Int32)), (.int p0)])) t := by
              intro t k
              by_cases hc21_4 : p0 = (123 : Int32)
              · have k2 : Steps p.tables e below (s₁.setTop (mkF m 29 #[.val (.int p0)] [(.int (1 : Int32))])) t := by simpa only [if_pos hc21_4] using k
                show Steps p.tables e below (s₁.setTop (mkF m 21 #[.val (.int p0)] [(.int (123 : Int32)), (.int p0)])) _
                refine XS.icmpNo X0.here hx rfl (hb hby d3_21) rfl (teq hc21_4).2 ?_
                show Steps p.tables e below (s₁.setTop (mkF m 24 #[.val (.int p0)] [])) _
                refine XS.iconst X0.here hx rfl (hb hby d3_24) ?_
                show Steps p.tables e below (s₁.setTop (mkF m 25 #[.val (.int p0)] [(.int (1 : Int32))])) _
                refine XS.goto X0.here hx rfl (pc0 := 25) (pc' := 29) rfl (hb hby d3_25) (by decide) (by decide) ?_
                exact k2
              · have k2 : Steps p.tables e below (s₁.setTop (mkF m 29 #[.val (.int p0)] [(.int (0 : Int32))])) t := by simpa only [if_neg hc21_4] using k
                show Steps p.tables e below (s₁.setTop (mkF m 21 #[.val (.int p0)] [(.int (123 : Int32)), (.int p0)])) _
                refine XS.icmpYes X0.here hx rfl (pc0 := 21) (pc' := 28) rfl (hb hby d3_21) rfl (feq hc21_4).2 (by decide) (by decide) ?_
                show Steps p.tables e below (s₁.setTop (mkF m 28 #[.val (.int p0)] [])) _
                refine XS.iconst X0.here hx rfl (hb hby d3_28) ?_
                exact k2
            refine sm4 _ ?_
            exact k2
        refine sm3 _ ?_
        exact k2
    refine Goes.go sm2 ?_
    show Goes p e below s _ _ _ (s₁.setTop (mkF m 29 #[.val (.int p0)] [(.int z2_s0)]))
    refine Goes.retN .boolean X0 hx hlk Bd.returns (by simp) (hb hby d3_29) ?_ (by decide) (by decide)
    exact ⟨by subst hz2_s0; rfl, N0, e0⟩
theorem d4_0 : decode method_3_code 0 = .ok (.iload_n 0, 1) := by decide +kernel
theorem d4_1 : decode method_3_code 1 = .ok (.bipush 40, 2) := by decide +kernel
theorem d4_3 : decode method_3_code 3 = .ok (.if_icmp .eq 39, 3) := by decide +kernel
theorem d4_6 : decode method_3_code 6 = .ok (.iload_n 0, 1) := by decide +kernel
theorem d4_7 : decode method_3_code 7 = .ok (.bipush 41, 2) := by decide +kernel
theorem d4_9 : decode method_3_code 9 = .ok (.if_icmp .eq 33, 3) := by decide +kernel
theorem d4_12 : decode method_3_code 12 = .ok (.iload_n 0, 1) := by decide +kernel
theorem d4_13 : decode method_3_code 13 = .ok (.bipush 91, 2) := by decide +kernel
theorem d4_15 : decode method_3_code 15 = .ok (.if_icmp .eq 27, 3) := by decide +kernel
theorem d4_18 : decode method_3_code 18 = .ok (.iload_n 0, 1) := by decide +kernel
theorem d4_19 : decode method_3_code 19 = .ok (.bipush 124, 2) := by decide +kernel
theorem d4_21 : decode method_3_code 21 = .ok (.if_icmp .eq 21, 3) := by decide +kernel
theorem d4_24 : decode method_3_code 24 = .ok (.iload_n 0, 1) := by decide +kernel
theorem d4_25 : decode method_3_code 25 = .ok (.bipush 46, 2) := by decide +kernel
theorem d4_27 : decode method_3_code 27 = .ok (.if_icmp .eq 15, 3) := by decide +kernel
theorem d4_30 : decode method_3_code 30 = .ok (.iload_n 0, 1) := by decide +kernel
theorem d4_31 : decode method_3_code 31 = .ok (.bipush 94, 2) := by decide +kernel
theorem d4_33 : decode method_3_code 33 = .ok (.if_icmp .eq 9, 3) := by decide +kernel
theorem d4_36 : decode method_3_code 36 = .ok (.iload_n 0, 1) := by decide +kernel
theorem d4_37 : decode method_3_code 37 = .ok (.bipush 36, 2) := by decide +kernel
theorem d4_39 : decode method_3_code 39 = .ok (.if_icmp .ne 7, 3) := by decide +kernel
theorem d4_42 : decode method_3_code 42 = .ok (.iconst 1, 1) := by decide +kernel
theorem d4_43 : decode method_3_code 43 = .ok (.goto 4, 3) := by decide +kernel
theorem d4_46 : decode method_3_code 46 = .ok (.iconst 0, 1) := by decide +kernel
theorem d4_47 : decode method_3_code 47 = .ok (.ireturn, 1) := by decide +kernel
theorem pn_4 : plainName "com/example/brisk_sieve/brisksieve/text/RegexCharsIsPlainPinLaw" = true := by first | (simp [plainName, overriddenIn]; done) | decide +kernel
theorem ef_rm4 (m : MethodId) (x0 : Int32) : entryFrame m #[(.int x0)] 1 = mkF m 0 #[.val (.int x0)] [] := by first | (simp [entryFrame, mkF, argsToLocals, Value.category]; done) | rfl
def f4_42 (p0 : Int32) : Int32 := (1 : Int32)
def f4 (p0 : Int32) : Int32 := (if p0 = (40 : Int32) then (f4_42 p0) else (if p0 = (41 : Int32) then (f4_42 p0) else (if p0 = (91 : Int32) then (f4_42 p0) else (if p0 = (124 : Int32) then (f4_42 p0) else (nar .boolean (if p0 = (46 : Int32) then (1 : Int32) else (if p0 = (94 : Int32) then (1 : Int32) else (if p0 = (36 : Int32) then (1 : Int32) else (0 : Int32)))))))))
set_option maxRecDepth 65536 in
set_option maxHeartbeats 40000000 in
theorem rm4 (l : Launch) (Z : State) (a0 : Array Value) (hw : ∀ d ∈ tables_1, d.before a0 Z = true) (ws : List Jvm.Cond) (p0 : Int32) (h0 : Heap) (n0 : Nat) (Z0 : n0 ≤ h0.size) :
    MetFree l (⟨"com/example/brisk_sieve/brisksieve/text/RegexCharsIsPlainPinLaw", "breaksRun", "(I)Z"⟩ : MethodName) (head1 (Jvm.Cond.code (⟨"com/example/brisk_sieve/brisksieve/text/RegexCharsIsPlainPinLaw", "breaksRun", "(I)Z"⟩ : MethodName) method_3_code 1 (some .boolean) :: ws) ({ frames := 0, cells := 0, slots := 0, locals := 0 } : Room)) (fun a U => a = #[(.int p0)] ∧ Z.Warmed39 U.vm ∧ U.heap = h0) (fun _ _ _ _ _ => True) (fun _ U o U' => ∃ v L, o = .returned v ∧ Qp (.int (f4 p0)) h0 n0 v U'.heap L ∧ FrameEnd U o U' L ({ frames := 0, cells := 0, slots := 0, locals := 0 } : Room).cells ({ frames := 0, cells := 0, slots := 0, locals := 0 } : Room).slots) := by
  refine MetFree.of_bodySF (plainFor_of_name pn_4) hisR ?_
  intro p e s m args below meth c s₁ Bd hml0 hP hK
  obtain ⟨rfl, hZ, hh⟩ := hP
  have hx := Bd.exec
  have hby := Bd.bytes
  have hml : c.maxLocals = 1 := hml0
  have hown : s.vm.findClass "com/example/brisk_sieve/brisksieve/text/RegexCharsIsPlainPinLaw" = some m.cls := findClass_of_methodNamed Bd.named
  have hnm := (name_of_methodNamed Bd.named Bd.method).1
  have hlk : meth.locks = false := BodyLoose.notSynchronized Bd
  have X0 : Stand p l e ({ frames := 0, cells := 0, slots := 0, locals := 0 } : Room) s m #[(.int p0)] below meth c s₁ [] 0 0 := Stand.of_body Bd
  have e0 : s₁.heap = h0 := by rw [← hh, Bd.state]; rfl
  have N0 := Fr.nil n0
  have K0 : Keep h0 h0 [] := Keep.refl _ _
  show Goes p e below s (Qp (.int (f4 p0)) h0 n0) ({ frames := 0, cells := 0, slots := 0, locals := 0 } : Room).cells ({ frames := 0, cells := 0, slots := 0, locals := 0 } : Room).slots (s₁.setTop (entryFrame m #[(.int p0)] 1))
  rw [ef_rm4]
  have J42 : ∀ {TJ : State} {lj : List Loc} (XJ : Stand p l e ({ frames := 0, cells := 0, slots := 0, locals := 0 } : Room) s m #[(.int p0)] below meth c TJ lj 0 0) (eJ : TJ.heap = h0) (NJ : Fr n0 lj), Goes p e below s (Qp (.int (f4_42 p0)) h0 n0) ({ frames := 0, cells := 0, slots := 0, locals := 0 } : Room).cells ({ frames := 0, cells := 0, slots := 0, locals := 0 } : Room).slots (TJ.setTop (mkF m 42 #[.val (.int p0)] [])) := by
    intro TJ lj XJ eJ NJ
    show Goes p e below s _ _ _ (TJ.setTop (mkF m 42 #[.val (.int p0)] []))
    refine Goes.go (fun _ k => XS.iconst XJ.here hx rfl (hb hby d4_42) k) ?_
    show Goes p e below s _ _ _ (TJ.setTop (mkF m 43 #[.val (.int p0)] [(.int (1 : Int32))]))
    refine Goes.go (fun _ k => XS.goto XJ.here hx rfl (pc0 := 43) (pc' := 47) rfl (hb hby d4_43) (by decide) (by decide) k) ?_
    show Goes p e below s _ _ _ (TJ.setTop (mkF m 47 #[.val (.int p0)] [(.int (1 : Int32))]))
    refine Goes.retN .boolean XJ hx hlk Bd.returns (by simp) (hb hby d4_47) ?_ (by decide) (by decide)
    exact ⟨by rfl, NJ, eJ⟩
  show Goes p e below s _ _ _ (s₁.setTop (mkF m 0 #[.val (.int p0)] []))
  refine Goes.go (fun _ k => XS.iloadN X0.here hx rfl (hb hby d4_0) rfl  k) ?_
  show Goes p e below s _ _ _ (s₁.setTop (mkF m 1 #[.val (.int p0)] [(.int p0)]))
  refine Goes.go (fun _ k => XS.bipush X0.here hx rfl (hb hby d4_1) k) ?_
  show Goes p e below s _ _ _ (s₁.setTop (mkF m 3 #[.val (.int p0)] [(.int (40 : Int32)), (.int p0)]))
  by_cases hc3_1 : p0 = (40 : Int32)
  · skip
    refine Goes.qi (if_pos hc3_1) ?_
    refine Goes.go (fun _ k => XS.icmpYes X0.here hx rfl (pc0 := 3) (pc' := 42) rfl (hb hby d4_3) rfl (teq hc3_1).1 (by decide) (by decide) k) ?_
    exact J42 X0 e0 N0
  · skip
    refine Goes.qi (if_neg hc3_1) ?_
    refine Goes.go (fun _ k => XS.icmpNo X0.here hx rfl (hb hby d4_3) rfl (feq hc3_1).1 k) ?_
    show Goes p e below s _ _ _ (s₁.setTop (mkF m 6 #[.val (.int p0)] []))
    refine Goes.go (fun _ k => XS.iloadN X0.here hx rfl (hb hby d4_6) rfl  k) ?_
    show Goes p e below s _ _ _ (s₁.setTop (mkF m 7 #[.val (.int p0)] [(.int p0)]))
    refine Goes.go (fun _ k => XS.bipush X0.here hx rfl (hb hby d4_7) k) ?_
    show Goes p e below s _ _ _ (s₁.setTop (mkF m 9 #[.val (.int p0)] [(.int (41 : Int32)), (.int p0)]))
    by_cases hc9_2 : p0 = (41 : Int32)
    · skip
      refine Goes.qi (if_pos hc9_2) ?_
      refine Goes.go (fun _ k => XS.icmpYes X0.here hx rfl (pc0 := 9) (pc' := 42) rfl (hb hby d4_9) rfl (teq hc9_2).1 (by decide) (by decide) k) ?_
      exact J42 X0 e0 N0
    · skip
      refine Goes.qi (if_neg hc9_2) ?_
      refine Goes.go (fun _ k => XS.icmpNo X0.here hx rfl (hb hby d4_9) rfl (feq hc9_2).1 k) ?_
      show Goes p e below s _ _ _ (s₁.setTop (mkF m 12 #[.val (.int p0)] []))
      refine Goes.go (fun _ k => XS.iloadN X0.here hx rfl (hb hby d4_12) rfl  k) ?_
      show Goes p e below s _ _ _ (s₁.setTop (mkF m 13 #[.val (.int p0)] [(.int p0)]))
      refine Goes.go (fun _ k => XS.bipush X0.here hx rfl (hb hby d4_13) k) ?_
      show Goes p e below s _ _ _ (s₁.setTop (mkF m 15 #[.val (.int p0)] [(.int (91 : Int32)), (.int p0)]))
      by_cases hc15_3 : p0 = (91 : Int32)
      · skip
        refine Goes.qi (if_pos hc15_3) ?_
        refine Goes.go (fun _ k => XS.icmpYes X0.here hx rfl (pc0 := 15) (pc' := 42) rfl (hb hby d4_15) rfl (teq hc15_3).1 (by decide) (by decide) k) ?_
        exact J42 X0 e0 N0
      · skip
        refine Goes.qi (if_neg hc15_3) ?_
        refine Goes.go (fun _ k => XS.icmpNo X0.here hx rfl (hb hby d4_15) rfl (feq hc15_3).1 k) ?_
        show Goes p e below s _ _ _ (s₁.setTop (mkF m 18 #[.val (.int p0)] []))
        refine Goes.go (fun _ k => XS.iloadN X0.here hx rfl (hb hby d4_18) rfl  k) ?_
        show Goes p e below s _ _ _ (s₁.setTop (mkF m 19 #[.val (.int p0)] [(.int p0)]))
        refine Goes.go (fun _ k => XS.bipush X0.here hx rfl (hb hby d4_19) k) ?_
        show Goes p e below s _ _ _ (s₁.setTop (mkF m 21 #[.val (.int p0)] [(.int (124 : Int32)), (.int p0)]))
        by_cases hc21_4 : p0 = (124 : Int32)
        · skip
          refine Goes.qi (if_pos hc21_4) ?_
          refine Goes.go (fun _ k => XS.icmpYes X0.here hx rfl (pc0 := 21) (pc' := 42) rfl (hb hby d4_21) rfl (teq hc21_4).1 (by decide) (by decide) k) ?_
          exact J42 X0 e0 N0
        · skip
          refine Goes.qi (if_neg hc21_4) ?_
          refine Goes.go (fun _ k => XS.icmpNo X0.here hx rfl (hb hby d4_21) rfl (feq hc21_4).1 k) ?_
          show Goes p e below s _ _ _ (s₁.setTop (mkF m 24 #[.val (.int p0)] []))
          refine Goes.go (fun _ k => XS.iloadN X0.here hx rfl (hb hby d4_24) rfl  k) ?_
          show Goes p e below s _ _ _ (s₁.setTop (mkF m 25 #[.val (.int p0)] [(.int p0)]))
          refine Goes.go (fun _ k => XS.bipush X0.here hx rfl (hb hby d4_25) k) ?_
          show Goes p e below s _ _ _ (s₁.setTop (mkF m 27 #[.val (.int p0)] [(.int (46 : Int32)), (.int p0)]))
          obtain ⟨z5_s0, hz5_s0⟩ : ∃ z : Int32, z = if p0 = (46 : Int32) then (1 : Int32) else (if p0 = (94 : Int32) then (1 : Int32) else (if p0 = (36 : Int32) then (1 : Int32) else (0 : Int32))) := ⟨_, rfl⟩
          have sm5 : ∀ t, Steps p.tables e below (s₁.setTop (mkF m 47 #[.val (.int p0)] [(.int z5_s0)])) t → Steps p.tables e below (s₁.setTop (mkF m 27 #[.val (.int p0)] [(.int (46 : Int32)), (.int p0)])) t := by
            intro t k
            by_cases hc27_5 : p0 = (46 : Int32)
            · have k2 : Steps p.tables e below (s₁.setTop (mkF m 47 #[.val (.int p0)] [(.int (1 : Int32))])) t := by simpa only [hz5_s0, if_pos hc27_5] using k
              show Steps p.tables e below (s₁.setTop (mkF m 27 #[.val (.int p0)] [(.int (46 : Int32)), (.int p0)])) _
              refine XS.icmpYes X0.here hx rfl (pc0 := 27) (pc' := 42) rfl (hb hby d4_27) rfl (teq hc27_5).1 (by decide) (by decide) ?_
              show Steps p.tables e below (s₁.setTop (mkF m 42 #[.val (.int p0)] [])) _
              refine XS.iconst X0.here hx rfl (hb hby d4_42) ?_
              show Steps p.tables e below (s₁.setTop (mkF m 43 #[.val (.int p0)] [(.int (1 : Int32))])) _
              refine XS.goto X0.here hx rfl (pc0 := 43) (pc' := 47) rfl (hb hby d4_43) (by decide) (by decide) ?_
              exact k2
            · have k2 : Steps p.tables e below (s₁.setTop (mkF m 47 #[.val (.int p0)] [(.int (if p0 = (94 : Int32) then (1 : Int32) else (if p0 = (36 : Int32) then (1 : Int32) else (0 : Int32))))])) t := by simpa only [hz5_s0, if_neg hc27_5] using k
              show Steps p.tables e below (s₁.setTop (mkF m 27 #[.val (.int p0)] [(.int (46 : Int32)), (.int p0)])) _
              refine XS.icmpNo X0.here hx rfl (hb hby d4_27) rfl (feq hc27_5).1 ?_
              show Steps p.tables e below (s₁.setTop (mkF m 30 #[.val (.int p0)] [])) _
              refine XS.iloadN X0.here hx rfl (hb hby d4_30) rfl  ?_
              show Steps p.tables e below (s₁.setTop (mkF m 31 #[.val (.int p0)] [(.int p0)])) _
              refine XS.bipush X0.here hx rfl (hb hby d4_31) ?_
              show Steps p.tables e below (s₁.setTop (mkF m 33 #[.val (.int p0)] [(.int (94 : Int32)), (.int p0)])) _
              have sm6 : ∀ t, Steps p.tables e below (s₁.setTop (mkF m 47 #[.val (.int p0)] [(.int (if p0 = (94 : Int32) then (1 : Int32) else (if p0 = (36 : Int32) then (1 : Int32) else (0 : Int32))))])) t → Steps p.tables e below (s₁.setTop (mkF m 33 #[.val (.int p0)] [(.int (94 : Int32)), (.int p0)])) t := by
                intro t k
                by_cases hc33_6 : p0 = (94 : Int32)
                · have k2 : Steps p.tables e below (s₁.setTop (mkF m 47 #[.val (.int p0)] [(.int (1 : Int32))])) t := by simpa only [if_pos hc33_6] using k
                  show Steps p.tables e below (s₁.setTop (mkF m 33 #[.val (.int p0)] [(.int (94 : Int32)), (.int p0)])) _
                  refine XS.icmpYes X0.here hx rfl (pc0 := 33) (pc' := 42) rfl (hb hby d4_33) rfl (teq hc33_6).1 (by decide) (by decide) ?_
                  show Steps p.tables e below (s₁.setTop (mkF m 42 #[.val (.int p0)] [])) _
                  refine XS.iconst X0.here hx rfl (hb hby d4_42) ?_
                  show Steps p.tables e below (s₁.setTop (mkF m 43 #[.val (.int p0)] [(.int (1 : Int32))])) _
                  refine XS.goto X0.here hx rfl (pc0 := 43) (pc' := 47) rfl (hb hby d4_43) (by decide) (by decide) ?_
                  exact k2
                · have k2 : Steps p.tables e below (s₁.setTop (mkF m 47 #[.val (.int p0)] [(.int (if p0 = (36 : Int32) then (1 : Int32) else (0 : Int32)))])) t := by simpa only [if_neg hc33_6] using k
                  show Steps p.tables e below (s₁.setTop (mkF m 33 #[.val (.int p0)] [(.int (94 : Int32)), (.int p0)])) _
                  refine XS.icmpNo X0.here hx rfl (hb hby d4_33) rfl (feq hc33_6).1 ?_
                  show Steps p.tables e below (s₁.setTop (mkF m 36 #[.val (.int p0)] [])) _
                  refine XS.iloadN X0.here hx rfl (hb hby d4_36) rfl  ?_
                  show Steps p.tables e below (s₁.setTop (mkF m 37 #[.val (.int p0)] [(.int p0)])) _
                  refine XS.bipush X0.here hx rfl (hb hby d4_37) ?_
                  show Steps p.tables e below (s₁.setTop (mkF m 39 #[.val (.int p0)] [(.int (36 : Int32)), (.int p0)])) _
                  have sm7 : ∀ t, Steps p.tables e below (s₁.setTop (mkF m 47 #[.val (.int p0)] [(.int (if p0 = (36 : Int32) then (1 : Int32) else (0 : Int32)))])) t → Steps p.tables e below (s₁.setTop (mkF m 39 #[.val (.int p0)] [(.int (36 : Int32)), (.int p0)])) t := by
                    intro t k
                    by_cases hc39_7 : p0 = (36 : Int32)
                    · have k2 : Steps p.tables e below (s₁.setTop (mkF m 47 #[.val (.int p0)] [(.int (1 : Int32))])) t := by simpa only [if_pos hc39_7] using k
                      show Steps p.tables e below (s₁.setTop (mkF m 39 #[.val (.int p0)] [(.int (36 : Int32)), (.int p0)])) _
                      refine XS.icmpNo X0.here hx rfl (hb hby d4_39) rfl (teq hc39_7).2 ?_
                      show Steps p.tables e below (s₁.setTop (mkF m 42 #[.val (.int p0)] [])) _
                      refine XS.iconst X0.here hx rfl (hb hby d4_42) ?_
                      show Steps p.tables e below (s₁.setTop (mkF m 43 #[.val (.int p0)] [(.int (1 : Int32))])) _
                      refine XS.goto X0.here hx rfl (pc0 := 43) (pc' := 47) rfl (hb hby d4_43) (by decide) (by decide) ?_
                      exact k2
                    · have k2 : Steps p.tables e below (s₁.setTop (mkF m 47 #[.val (.int p0)] [(.int (0 : Int32))])) t := by simpa only [if_neg hc39_7] using k
                      show Steps p.tables e below (s₁.setTop (mkF m 39 #[.val (.int p0)] [(.int (36 : Int32)), (.int p0)])) _
                      refine XS.icmpYes X0.here hx rfl (pc0 := 39) (pc' := 46) rfl (hb hby d4_39) rfl (feq hc39_7).2 (by decide) (by decide) ?_
                      show Steps p.tables e below (s₁.setTop (mkF m 46 #[.val (.int p0)] [])) _
                      refine XS.iconst X0.here hx rfl (hb hby d4_46) ?_
                      exact k2
                  refine sm7 _ ?_
                  exact k2
              refine sm6 _ ?_
              exact k2
          refine Goes.go sm5 ?_
          show Goes p e below s _ _ _ (s₁.setTop (mkF m 47 #[.val (.int p0)] [(.int z5_s0)]))
          refine Goes.retN .boolean X0 hx hlk Bd.returns (by simp) (hb hby d4_47) ?_ (by decide) (by decide)
          exact ⟨by subst hz5_s0; rfl, N0, e0⟩
theorem d2_0 : decode method_4_code 0 = .ok (.iload_n 0, 1) := by decide +kernel
theorem d2_1 : decode method_4_code 1 = .ok (.ifCond .ne 5, 3) := by decide +kernel
theorem d2_4 : decode method_4_code 4 = .ok (.iconst 0, 1) := by decide +kernel
theorem d2_5 : decode method_4_code 5 = .ok (.ireturn, 1) := by decide +kernel
theorem d2_6 : decode method_4_code 6 = .ok (.iload_n 0, 1) := by decide +kernel
theorem d2_7 : decode method_4_code 7 = .ok (.bipush 92, 2) := by decide +kernel
theorem d2_9 : decode method_4_code 9 = .ok (.if_icmp .ne 5, 3) := by decide +kernel
theorem d2_12 : decode method_4_code 12 = .ok (.iconst 0, 1) := by decide +kernel
theorem d2_13 : decode method_4_code 13 = .ok (.ireturn, 1) := by decide +kernel
theorem d2_14 : decode method_4_code 14 = .ok (.iload_n 0, 1) := by decide +kernel
theorem d2_15 : decode method_4_code 15 = .ok (.invokestatic 7, 3) := by decide +kernel
theorem d2_18 : decode method_4_code 18 = .ok (.ifCond .eq 5, 3) := by decide +kernel
theorem d2_21 : decode method_4_code 21 = .ok (.iconst 0, 1) := by decide +kernel
theorem d2_22 : decode method_4_code 22 = .ok (.ireturn, 1) := by decide +kernel
theorem d2_23 : decode method_4_code 23 = .ok (.iload_n 0, 1) := by decide +kernel
theorem d2_24 : decode method_4_code 24 = .ok (.invokestatic 13, 3) := by decide +kernel
theorem d2_27 : decode method_4_code 27 = .ok (.ifCond .eq 5, 3) := by decide +kernel
theorem d2_30 : decode method_4_code 30 = .ok (.iconst 0, 1) := by decide +kernel
theorem d2_31 : decode method_4_code 31 = .ok (.ireturn, 1) := by decide +kernel
theorem d2_32 : decode method_4_code 32 = .ok (.iconst 1, 1) := by decide +kernel
theorem d2_33 : decode method_4_code 33 = .ok (.ireturn, 1) := by decide +kernel
theorem pn_2 : plainName "com/example/brisk_sieve/brisksieve/text/RegexCharsIsPlainPinLaw" = true := by first | (simp [plainName, overriddenIn]; done) | decide +kernel
theorem ef_rm2 (m : MethodId) (x0 : Int32) : entryFrame m #[(.int x0)] 1 = mkF m 0 #[.val (.int x0)] [] := by first | (simp [entryFrame, mkF, argsToLocals, Value.category]; done) | rfl
def f2 (p0 : Int32) : Int32 := (if p0 = (0 : Int32) then (0 : Int32) else (if p0 = (92 : Int32) then (0 : Int32) else (if (f3 p0) = (0 : Int32) then (if (f4 p0) = (0 : Int32) then (1 : Int32) else (0 : Int32)) else (0 : Int32))))
set_option maxRecDepth 65536 in
set_option maxHeartbeats 40000000 in
theorem rm2 (l : Launch) (Z : State) (a0 : Array Value) (hw : ∀ d ∈ tables_1, d.before a0 Z = true) (ws : List Jvm.Cond) (p0 : Int32) (h0 : Heap) (n0 : Nat) (Z0 : n0 ≤ h0.size) :
    MetFree l (⟨"com/example/brisk_sieve/brisksieve/text/RegexCharsIsPlainPinLaw", "reference", "(I)Z"⟩ : MethodName) (head1 (Jvm.Cond.code (⟨"com/example/brisk_sieve/brisksieve/text/RegexCharsIsPlainPinLaw", "reference", "(I)Z"⟩ : MethodName) method_4_code 1 (some .boolean) :: ws) ({ frames := 1, cells := 0, slots := 0, locals := 12 } : Room)) (fun a U => a = #[(.int p0)] ∧ Z.Warmed39 U.vm ∧ U.heap = h0) (fun _ _ _ _ _ => True) (fun _ U o U' => ∃ v L, o = .returned v ∧ Qp (.int (f2 p0)) h0 n0 v U'.heap L ∧ FrameEnd U o U' L ({ frames := 1, cells := 0, slots := 0, locals := 12 } : Room).cells ({ frames := 1, cells := 0, slots := 0, locals := 12 } : Room).slots) := by
  refine MetFree.of_bodySF (plainFor_of_name pn_2) hisR ?_
  intro p e s m args below meth c s₁ Bd hml0 hP hK
  obtain ⟨rfl, hZ, hh⟩ := hP
  have hx := Bd.exec
  have hby := Bd.bytes
  have hml : c.maxLocals = 1 := hml0
  have hown : s.vm.findClass "com/example/brisk_sieve/brisksieve/text/RegexCharsIsPlainPinLaw" = some m.cls := findClass_of_methodNamed Bd.named
  have hnm := (name_of_methodNamed Bd.named Bd.method).1
  have hlk : meth.locks = false := BodyLoose.notSynchronized Bd
  have X0 : Stand p l e ({ frames := 1, cells := 0, slots := 0, locals := 12 } : Room) s m #[(.int p0)] below meth c s₁ [] 0 0 := Stand.of_body Bd
  have e0 : s₁.heap = h0 := by rw [← hh, Bd.state]; rfl
  have N0 := Fr.nil n0
  have K0 : Keep h0 h0 [] := Keep.refl _ _
  show Goes p e below s (Qp (.int (f2 p0)) h0 n0) ({ frames := 1, cells := 0, slots := 0, locals := 12 } : Room).cells ({ frames := 1, cells := 0, slots := 0, locals := 12 } : Room).slots (s₁.setTop (entryFrame m #[(.int p0)] 1))
  rw [ef_rm2]
  show Goes p e below s _ _ _ (s₁.setTop (mkF m 0 #[.val (.int p0)] []))
  refine Goes.go (fun _ k => XS.iloadN X0.here hx rfl (hb hby d2_0) rfl  k) ?_
  show Goes p e below s _ _ _ (s₁.setTop (mkF m 1 #[.val (.int p0)] [(.int p0)]))
  by_cases hc1_1 : p0 = (0 : Int32)
  · skip
    refine Goes.qi (if_pos hc1_1) ?_
    refine Goes.go (fun _ k => XS.ifNo X0.here hx rfl (hb hby d2_1) rfl ((if0 _ _).trans (teq hc1_1).2) k) ?_
    show Goes p e below s _ _ _ (s₁.setTop (mkF m 4 #[.val (.int p0)] []))
    refine Goes.go (fun _ k => XS.iconst X0.here hx rfl (hb hby d2_4) k) ?_
    show Goes p e below s _ _ _ (s₁.setTop (mkF m 5 #[.val (.int p0)] [(.int (0 : Int32))]))
    refine Goes.retN .boolean X0 hx hlk Bd.returns (by simp) (hb hby d2_5) ?_ (by decide) (by decide)
    exact ⟨by rfl, N0, e0⟩
  · skip
    refine Goes.qi (if_neg hc1_1) ?_
    refine Goes.go (fun _ k => XS.ifYes X0.here hx rfl (pc0 := 1) (pc' := 6) rfl (hb hby d2_1) rfl ((if0 _ _).trans (feq hc1_1).2) (by decide) (by decide) k) ?_
    show Goes p e below s _ _ _ (s₁.setTop (mkF m 6 #[.val (.int p0)] []))
    refine Goes.go (fun _ k => XS.iloadN X0.here hx rfl (hb hby d2_6) rfl  k) ?_
    show Goes p e below s _ _ _ (s₁.setTop (mkF m 7 #[.val (.int p0)] [(.int p0)]))
    refine Goes.go (fun _ k => XS.bipush X0.here hx rfl (hb hby d2_7) k) ?_
    show Goes p e below s _ _ _ (s₁.setTop (mkF m 9 #[.val (.int p0)] [(.int (92 : Int32)), (.int p0)]))
    by_cases hc9_2 : p0 = (92 : Int32)
    · skip
      refine Goes.qi (if_pos hc9_2) ?_
      refine Goes.go (fun _ k => XS.icmpNo X0.here hx rfl (hb hby d2_9) rfl (teq hc9_2).2 k) ?_
      show Goes p e below s _ _ _ (s₁.setTop (mkF m 12 #[.val (.int p0)] []))
      refine Goes.go (fun _ k => XS.iconst X0.here hx rfl (hb hby d2_12) k) ?_
      show Goes p e below s _ _ _ (s₁.setTop (mkF m 13 #[.val (.int p0)] [(.int (0 : Int32))]))
      refine Goes.retN .boolean X0 hx hlk Bd.returns (by simp) (hb hby d2_13) ?_ (by decide) (by decide)
      exact ⟨by rfl, N0, e0⟩
    · skip
      refine Goes.qi (if_neg hc9_2) ?_
      refine Goes.go (fun _ k => XS.icmpYes X0.here hx rfl (pc0 := 9) (pc' := 14) rfl (hb hby d2_9) rfl (feq hc9_2).2 (by decide) (by decide) k) ?_
      show Goes p e below s _ _ _ (s₁.setTop (mkF m 14 #[.val (.int p0)] []))
      refine Goes.go (fun _ k => XS.iloadN X0.here hx rfl (hb hby d2_14) rfl  k) ?_
      show Goes p e below s _ _ _ (s₁.setTop (mkF m 15 #[.val (.int p0)] [(.int p0)]))
      obtain ⟨_, _, ⟨T3, L3, k3, n3⟩, -, X3, ⟨Lc3, hQ3, l3, y3, z3⟩, st3⟩ := Jvm.LawKit.callS X0 hx (y := (⟨"com/example/brisk_sieve/brisksieve/text/RegexCharsIsPlainPinLaw", "isQuantifier", "(I)Z"⟩ : MethodName)) hown (mvT hZ (hw _ (List.mem_of_getElem? (i := 12) rfl))) (mvT hZ (hw _ (List.mem_of_getElem? (i := 13) rfl))) (mvT hZ (hw _ (List.mem_of_getElem? (i := 10) rfl))) (mvT hZ (hw _ (List.mem_of_getElem? (i := 14) rfl))) (by decide) (backOf (W := 0) (rm3 l Z a0 hw [] p0 h0 n0 Z0 ) hZ (hw _ (List.mem_of_getElem? (i := 14) rfl)) (hw _ (List.mem_of_getElem? (i := 10) rfl)) (by decide) (by decide)) (g := (mkF m 15 #[.val (.int p0)] [(.int p0)])) rfl (by rw [hml]; rfl) (argsL := [(.int p0)]) (rest := []) (lenOf pd_0 rfl) rfl (by show 2 * 0 + _ ≤ _; exact Nat.le_of_eq rfl) (hb hby d2_15) (fun _ _ => ⟨rfl, e0, (by decide : 0 + 0 ≤ _), (by decide : 0 + 0 ≤ _)⟩)
      dsimp only [Pt.U, Pt.locs, Pt.cells, Pt.slots] at X3 l3 y3 z3 st3 hQ3
      subst l3 y3 z3
      obtain ⟨rfl, N3q, e3⟩ := hQ3
      have N3 := Fr.app N0 N3q
      refine Goes.go st3 ?_
      show Goes p e below s _ _ _ (T3.setTop (mkF m 18 #[.val (.int p0)] [(.int (f3 p0))]))
      by_cases hc18_4 : (f3 p0) = (0 : Int32)
      · skip
        refine Goes.qi (if_pos hc18_4) ?_
        refine Goes.go (fun _ k => XS.ifYes X3.here hx rfl (pc0 := 18) (pc' := 23) rfl (hb hby d2_18) rfl ((if0 _ _).trans (teq hc18_4).1) (by decide) (by decide) k) ?_
        show Goes p e below s _ _ _ (T3.setTop (mkF m 23 #[.val (.int p0)] []))
        refine Goes.go (fun _ k => XS.iloadN X3.here hx rfl (hb hby d2_23) rfl  k) ?_
        show Goes p e below s _ _ _ (T3.setTop (mkF m 24 #[.val (.int p0)] [(.int p0)]))
        obtain ⟨_, _, ⟨T5, L5, k5, n5⟩, -, X5, ⟨Lc5, hQ5, l5, y5, z5⟩, st5⟩ := Jvm.LawKit.callS X3 hx (y := (⟨"com/example/brisk_sieve/brisksieve/text/RegexCharsIsPlainPinLaw", "breaksRun", "(I)Z"⟩ : MethodName)) hown (mvT hZ (hw _ (List.mem_of_getElem? (i := 15) rfl))) (mvT hZ (hw _ (List.mem_of_getElem? (i := 16) rfl))) (mvT hZ (hw _ (List.mem_of_getElem? (i := 10) rfl))) (mvT hZ (hw _ (List.mem_of_getElem? (i := 17) rfl))) (by decide) (backOf (W := 0) (rm4 l Z a0 hw [] p0 h0 n0 Z0 ) hZ (hw _ (List.mem_of_getElem? (i := 17) rfl)) (hw _ (List.mem_of_getElem? (i := 10) rfl)) (by decide) (by decide)) (g := (mkF m 24 #[.val (.int p0)] [(.int p0)])) rfl (by rw [hml]; rfl) (argsL := [(.int p0)]) (rest := []) (lenOf pd_0 rfl) rfl (by show 2 * 0 + _ ≤ _; exact Nat.le_of_eq rfl) (hb hby d2_24) (fun _ _ => ⟨rfl, e3, (by decide : 0 + 0 ≤ _), (by decide : 0 + 0 ≤ _)⟩)
        dsimp only [Pt.U, Pt.locs, Pt.cells, Pt.slots] at X5 l5 y5 z5 st5 hQ5
        subst l5 y5 z5
        obtain ⟨rfl, N5q, e5⟩ := hQ5
        have N5 := Fr.app N3 N5q
        refine Goes.go st5 ?_
        show Goes p e below s _ _ _ (T5.setTop (mkF m 27 #[.val (.int p0)] [(.int (f4 p0))]))
        by_cases hc27_6 : (f4 p0) = (0 : Int32)
        · skip
          refine Goes.qi (if_pos hc27_6) ?_
          refine Goes.go (fun _ k => XS.ifYes X5.here hx rfl (pc0 := 27) (pc' := 32) rfl (hb hby d2_27) rfl ((if0 _ _).trans (teq hc27_6).1) (by decide) (by decide) k) ?_
          show Goes p e below s _ _ _ (T5.setTop (mkF m 32 #[.val (.int p0)] []))
          refine Goes.go (fun _ k => XS.iconst X5.here hx rfl (hb hby d2_32) k) ?_
          show Goes p e below s _ _ _ (T5.setTop (mkF m 33 #[.val (.int p0)] [(.int (1 : Int32))]))
          refine Goes.retN .boolean X5 hx hlk Bd.returns (by simp) (hb hby d2_33) ?_ (by decide) (by decide)
          exact ⟨by rfl, N5, e5⟩
        · skip
          refine Goes.qi (if_neg hc27_6) ?_
          refine Goes.go (fun _ k => XS.ifNo X5.here hx rfl (hb hby d2_27) rfl ((if0 _ _).trans (feq hc27_6).1) k) ?_
          show Goes p e below s _ _ _ (T5.setTop (mkF m 30 #[.val (.int p0)] []))
          refine Goes.go (fun _ k => XS.iconst X5.here hx rfl (hb hby d2_30) k) ?_
          show Goes p e below s _ _ _ (T5.setTop (mkF m 31 #[.val (.int p0)] [(.int (0 : Int32))]))
          refine Goes.retN .boolean X5 hx hlk Bd.returns (by simp) (hb hby d2_31) ?_ (by decide) (by decide)
          exact ⟨by rfl, N5, e5⟩
      · skip
        refine Goes.qi (if_neg hc18_4) ?_
        refine Goes.go (fun _ k => XS.ifNo X3.here hx rfl (hb hby d2_18) rfl ((if0 _ _).trans (feq hc18_4).1) k) ?_
        show Goes p e below s _ _ _ (T3.setTop (mkF m 21 #[.val (.int p0)] []))
        refine Goes.go (fun _ k => XS.iconst X3.here hx rfl (hb hby d2_21) k) ?_
        show Goes p e below s _ _ _ (T3.setTop (mkF m 22 #[.val (.int p0)] [(.int (0 : Int32))]))
        refine Goes.retN .boolean X3 hx hlk Bd.returns (by simp) (hb hby d2_22) ?_ (by decide) (by decide)
        exact ⟨by rfl, N3, e3⟩
theorem own_ne {x k : Int32} (h : x.toInt < 0 ∨ 124 < x.toInt) (hk : 0 ≤ k.toInt ∧ k.toInt ≤ 124) : ¬ x = k := by
  rintro rfl; omega
theorem own_far1 {x : Int32} (h : x.toInt < 0 ∨ 124 < x.toInt) : f1 x = 1 := by
  simp only [f1, own_ne h (k := 0) (by decide), own_ne h (k := 36) (by decide), own_ne h (k := 40) (by decide), own_ne h (k := 41) (by decide), own_ne h (k := 42) (by decide), own_ne h (k := 43) (by decide), own_ne h (k := 46) (by decide), own_ne h (k := 63) (by decide), own_ne h (k := 91) (by decide), own_ne h (k := 92) (by decide), own_ne h (k := 94) (by decide), own_ne h (k := 123) (by decide), own_ne h (k := 124) (by decide), if_false]
theorem own_far2 {x : Int32} (h : x.toInt < 0 ∨ 124 < x.toInt) : f2 x = 1 := by
  have q3 : f3 x = 0 := by simp [f3, nar, own_ne h (k := 0) (by decide), own_ne h (k := 36) (by decide), own_ne h (k := 40) (by decide), own_ne h (k := 41) (by decide), own_ne h (k := 42) (by decide), own_ne h (k := 43) (by decide), own_ne h (k := 46) (by decide), own_ne h (k := 63) (by decide), own_ne h (k := 91) (by decide), own_ne h (k := 92) (by decide), own_ne h (k := 94) (by decide), own_ne h (k := 123) (by decide), own_ne h (k := 124) (by decide)]
  have q4 : f4 x = 0 := by simp [f4, f4_42, nar, own_ne h (k := 0) (by decide), own_ne h (k := 36) (by decide), own_ne h (k := 40) (by decide), own_ne h (k := 41) (by decide), own_ne h (k := 42) (by decide), own_ne h (k := 43) (by decide), own_ne h (k := 46) (by decide), own_ne h (k := 63) (by decide), own_ne h (k := 91) (by decide), own_ne h (k := 92) (by decide), own_ne h (k := 94) (by decide), own_ne h (k := 123) (by decide), own_ne h (k := 124) (by decide)]
  simp [f2, q3, q4, own_ne h (k := 0) (by decide), own_ne h (k := 36) (by decide), own_ne h (k := 40) (by decide), own_ne h (k := 41) (by decide), own_ne h (k := 42) (by decide), own_ne h (k := 43) (by decide), own_ne h (k := 46) (by decide), own_ne h (k := 63) (by decide), own_ne h (k := 91) (by decide), own_ne h (k := 92) (by decide), own_ne h (k := 94) (by decide), own_ne h (k := 123) (by decide), own_ne h (k := 124) (by decide)]
set_option maxRecDepth 65536 in
theorem own_tab : ∀ n : Fin 125, f1 (Int32.ofNat n.val) = f2 (Int32.ofNat n.val) := by decide +kernel
theorem own_eq (x : Int32) : f1 x = f2 x := by
  by_cases h : x.toInt < 0 ∨ 124 < x.toInt
  · rw [own_far1 h, own_far2 h]
  · have e : x = Int32.ofNat x.toInt.toNat := own_eqNat (by omega)
    rw [e]
    exact own_tab ⟨x.toInt.toNat, by omega⟩
theorem own_above {m x : Int32} (h0 : 0 ≤ m.toInt) (h1 : m.toInt ≤ 124) : f1 (m + ((x &&& 16383) + 1) * 65536) = 1 := by
  obtain ⟨k, hk, ek⟩ := own_andN x 16383 14 (by decide) (by decide)
  rw [ek]
  have a1 : (Int32.ofNat k + 1 : Int32) = Int32.ofNat (k + 1) := own_add (n := 1) (by omega)
  have t1 : (Int32.ofNat (k + 1)).toInt = k + 1 := own_nat (by omega)
  have t2 : (65536 : Int32).toInt = 65536 := rfl
  have a2 : (Int32.ofNat (k + 1) * 65536).toInt = (k + 1) * 65536 := by
    rw [Jvm.Kit.i32_mul (by rw [t1, t2]; omega) (by rw [t1, t2]; omega), t1, t2]
  have a3 : (m + Int32.ofNat (k + 1) * 65536).toInt = m.toInt + (k + 1) * 65536 := by
    rw [Jvm.Kit.i32_add (by rw [a2]; omega) (by rw [a2]; omega), a2]
  rw [a1]
  exact own_far1 (Or.inr (by rw [a3]; omega))
theorem pn_0 : plainName "com/example/brisk_sieve/brisksieve/text/RegexCharsIsPlainPinLaw" = true := by first | (simp [plainName, overriddenIn]; done) | decide +kernel
theorem ef_rm0 (m : MethodId) (x0 : Int32) (x1 : Int32) (x2 : Int32) : entryFrame m #[(.int x0), (.int x1), (.int x2)] maxLocals = mkF m 0 #[.val (.int x0), .val (.int x1), .val (.int x2), .unset, .unset, .unset, .unset, .unset, .unset, .unset, .unset] [] := by first | (simp [entryFrame, mkF, argsToLocals, Value.category, maxLocals]; done) | rfl
def Q0 (n0 : Nat) (v : Option Value) (h : Heap) (L : List Loc) : Prop := v = some (.int 1) ∧ Fr n0 L
set_option maxRecDepth 65536 in
set_option maxHeartbeats 40000000 in
theorem rm0 (l : Launch) (Z : State) (a0 : Array Value) (hw : ∀ d ∈ tables_1, d.before a0 Z = true) (ws : List Jvm.Cond) (p0 : Int32) (p1 : Int32) (p2 : Int32) (h0 : Heap) (n0 : Nat) (Z0 : n0 ≤ h0.size) :
    MetFree l x (head1 (Jvm.Cond.code x code maxLocals ret :: ws) room_1) (fun a U => a = #[(.int p0), (.int p1), (.int p2)] ∧ Z.Warmed39 U.vm ∧ U.heap = h0) (fun _ _ _ _ _ => True) (fun _ U o U' => ∃ v L, o = .returned v ∧ Q0 n0 v U'.heap L ∧ FrameEnd U o U' L room_1.cells room_1.slots) := by
  refine MetFree.of_bodySF (plainFor_of_name pn_0) hisR ?_
  intro p e s m args below meth c s₁ Bd hml0 hP hK
  obtain ⟨rfl, hZ, hh⟩ := hP
  have hx := Bd.exec
  have hby := Bd.bytes
  have hml : c.maxLocals = 11 := hml0
  have hown : s.vm.findClass "com/example/brisk_sieve/brisksieve/text/RegexCharsIsPlainPinLaw" = some m.cls := findClass_of_methodNamed Bd.named
  have hnm := (name_of_methodNamed Bd.named Bd.method).1
  have hlk : meth.locks = false := BodyLoose.notSynchronized Bd
  have X0 : Stand p l e room_1 s m #[(.int p0), (.int p1), (.int p2)] below meth c s₁ [] 0 0 := Stand.of_body Bd
  have e0 : s₁.heap = h0 := by rw [← hh, Bd.state]; rfl
  have N0 := Fr.nil n0
  have K0 : Keep h0 h0 [] := Keep.refl _ _
  show Goes p e below s (Q0 n0) room_1.cells room_1.slots (s₁.setTop (entryFrame m #[(.int p0), (.int p1), (.int p2)] maxLocals))
  rw [ef_rm0]
  show Goes p e below s _ _ _ (s₁.setTop (mkF m 0 #[.val (.int p0), .val (.int p1), .val (.int p2), .unset, .unset, .unset, .unset, .unset, .unset, .unset, .unset] []))
  refine Goes.go (fun _ k => XS.bipush X0.here hx rfl (hb hby at_0) k) ?_
  show Goes p e below s _ _ _ (s₁.setTop (mkF m 2 #[.val (.int p0), .val (.int p1), .val (.int p2), .unset, .unset, .unset, .unset, .unset, .unset, .unset, .unset] [(.int (13 : Int32))]))
  obtain ⟨T1, h1, X1, e1, E1, A1, EA1, st1⟩ := own_newA X0 hx hZ (hw _ (List.mem_of_getElem? (i := 0) rfl)) e0 (g := (mkF m 2 #[.val (.int p0), .val (.int p1), .val (.int p2), .unset, .unset, .unset, .unset, .unset, .unset, .unset, .unset] [(.int (13 : Int32))])) rfl (hb hby at_2) rfl (n := 13) rfl (cap := 13) (Nat.le_refl _) (by decide) (by decide) (by decide) (by decide) (by decide) (by decide : _ = "[C")
  obtain ⟨b1, g1⟩ : ∃ z, z = h0.size := ⟨_, rfl⟩
  rw [← g1] at A1 EA1 st1
  have gb1 : n0 ≤ b1 := Nat.le_trans Z0 (Nat.le_of_eq g1.symm)
  have sb1 : h0.size ≤ b1 := Nat.le_trans K0.1 (Nat.le_of_eq g1.symm)
  have Z1 := Nat.le_trans Z0 E1.1
  have K1 := Keep.ext K0 E1
  refine Goes.go st1 ?_
  show Goes p e below s _ _ _ (T1.setTop (mkF m 4 #[.val (.int p0), .val (.int p1), .val (.int p2), .unset, .unset, .unset, .unset, .unset, .unset, .unset, .unset] [(.ref b1)]))
  refine Goes.go (fun _ k => XS.dup X1.here hx rfl (hb hby at_4) rfl rfl k) ?_
  show Goes p e below s _ _ _ (T1.setTop (mkF m 5 #[.val (.int p0), .val (.int p1), .val (.int p2), .unset, .unset, .unset, .unset, .unset, .unset, .unset, .unset] [(.ref b1), (.ref b1)]))
  refine Goes.go (fun _ k => XS.iconst X1.here hx rfl (hb hby at_5) k) ?_
  show Goes p e below s _ _ _ (T1.setTop (mkF m 6 #[.val (.int p0), .val (.int p1), .val (.int p2), .unset, .unset, .unset, .unset, .unset, .unset, .unset, .unset] [(.int (0 : Int32)), (.ref b1), (.ref b1)]))
  refine Goes.go (fun _ k => XS.iconst X1.here hx rfl (hb hby at_6) k) ?_
  show Goes p e below s _ _ _ (T1.setTop (mkF m 7 #[.val (.int p0), .val (.int p1), .val (.int p2), .unset, .unset, .unset, .unset, .unset, .unset, .unset, .unset] [(.int (0 : Int32)), (.int (0 : Int32)), (.ref b1), (.ref b1)]))
  obtain ⟨T2, h2, X2, e2, W2, A2, st2⟩ := own_stC X1 hx hZ e1 A1 (i := 0) rfl (by decide) (g := (mkF m 7 #[.val (.int p0), .val (.int p1), .val (.int p2), .unset, .unset, .unset, .unset, .unset, .unset, .unset, .unset] [(.int (0 : Int32)), (.int (0 : Int32)), (.ref b1), (.ref b1)])) rfl rfl (hb hby at_7)
  have N2 := Fr.snoc X2 N0 gb1
  have Z2 := Nat.le_trans Z1 (Keep.of_wr W2).1
  have K2 := Keep.wr K1 W2 (Or.inr sb1)
  refine Goes.go st2 ?_
  show Goes p e below s _ _ _ (T2.setTop (mkF m 8 #[.val (.int p0), .val (.int p1), .val (.int p2), .unset, .unset, .unset, .unset, .unset, .unset, .unset, .unset] [(.ref b1)]))
  refine Goes.go (fun _ k => XS.dup X2.here hx rfl (hb hby at_8) rfl rfl k) ?_
  show Goes p e below s _ _ _ (T2.setTop (mkF m 9 #[.val (.int p0), .val (.int p1), .val (.int p2), .unset, .unset, .unset, .unset, .unset, .unset, .unset, .unset] [(.ref b1), (.ref b1)]))
  refine Goes.go (fun _ k => XS.iconst X2.here hx rfl (hb hby at_9) k) ?_
  show Goes p e below s _ _ _ (T2.setTop (mkF m 10 #[.val (.int p0), .val (.int p1), .val (.int p2), .unset, .unset, .unset, .unset, .unset, .unset, .unset, .unset] [(.int (1 : Int32)), (.ref b1), (.ref b1)]))
  refine Goes.go (fun _ k => XS.bipush X2.here hx rfl (hb hby at_10) k) ?_
  show Goes p e below s _ _ _ (T2.setTop (mkF m 12 #[.val (.int p0), .val (.int p1), .val (.int p2), .unset, .unset, .unset, .unset, .unset, .unset, .unset, .unset] [(.int (42 : Int32)), (.int (1 : Int32)), (.ref b1), (.ref b1)]))
  obtain ⟨T3, h3, X3, e3, W3, A3, st3⟩ := own_stC X2 hx hZ e2 A2 (i := 1) rfl (by decide) (g := (mkF m 12 #[.val (.int p0), .val (.int p1), .val (.int p2), .unset, .unset, .unset, .unset, .unset, .unset, .unset, .unset] [(.int (42 : Int32)), (.int (1 : Int32)), (.ref b1), (.ref b1)])) rfl rfl (hb hby at_12)
  have N3 := Fr.snoc X3 N2 gb1
  have Z3 := Nat.le_trans Z2 (Keep.of_wr W3).1
  have K3 := Keep.wr K2 W3 (Or.inr sb1)
  refine Goes.go st3 ?_
  show Goes p e below s _ _ _ (T3.setTop (mkF m 13 #[.val (.int p0), .val (.int p1), .val (.int p2), .unset, .unset, .unset, .unset, .unset, .unset, .unset, .unset] [(.ref b1)]))
  refine Goes.go (fun _ k => XS.dup X3.here hx rfl (hb hby at_13) rfl rfl k) ?_
  show Goes p e below s _ _ _ (T3.setTop (mkF m 14 #[.val (.int p0), .val (.int p1), .val (.int p2), .unset, .unset, .unset, .unset, .unset, .unset, .unset, .unset] [(.ref b1), (.ref b1)]))
  refine Goes.go (fun _ k => XS.iconst X3.here hx rfl (hb hby at_14) k) ?_
  show Goes p e below s _ _ _ (T3.setTop (mkF m 15 #[.val (.int p0), .val (.int p1), .val (.int p2), .unset, .unset, .unset, .unset, .unset, .unset, .unset, .unset] [(.int (2 : Int32)), (.ref b1), (.ref b1)]))
  refine Goes.go (fun _ k => XS.bipush X3.here hx rfl (hb hby at_15) k) ?_
  show Goes p e below s _ _ _ (T3.setTop (mkF m 17 #[.val (.int p0), .val (.int p1), .val (.int p2), .unset, .unset, .unset, .unset, .unset, .unset, .unset, .unset] [(.int (43 : Int32)), (.int (2 : Int32)), (.ref b1), (.ref b1)]))
  obtain ⟨T4, h4, X4, e4, W4, A4, st4⟩ := own_stC X3 hx hZ e3 A3 (i := 2) rfl (by decide) (g := (mkF m 17 #[.val (.int p0), .val (.int p1), .val (.int p2), .unset, .unset, .unset, .unset, .unset, .unset, .unset, .unset] [(.int (43 : Int32)), (.int (2 : Int32)), (.ref b1), (.ref b1)])) rfl rfl (hb hby at_17)
  have N4 := Fr.snoc X4 N3 gb1
  have Z4 := Nat.le_trans Z3 (Keep.of_wr W4).1
  have K4 := Keep.wr K3 W4 (Or.inr sb1)
  refine Goes.go st4 ?_
  show Goes p e below s _ _ _ (T4.setTop (mkF m 18 #[.val (.int p0), .val (.int p1), .val (.int p2), .unset, .unset, .unset, .unset, .unset, .unset, .unset, .unset] [(.ref b1)]))
  refine Goes.go (fun _ k => XS.dup X4.here hx rfl (hb hby at_18) rfl rfl k) ?_
  show Goes p e below s _ _ _ (T4.setTop (mkF m 19 #[.val (.int p0), .val (.int p1), .val (.int p2), .unset, .unset, .unset, .unset, .unset, .unset, .unset, .unset] [(.ref b1), (.ref b1)]))
  refine Goes.go (fun _ k => XS.iconst X4.here hx rfl (hb hby at_19) k) ?_
  show Goes p e below s _ _ _ (T4.setTop (mkF m 20 #[.val (.int p0), .val (.int p1), .val (.int p2), .unset, .unset, .unset, .unset, .unset, .unset, .unset, .unset] [(.int (3 : Int32)), (.ref b1), (.ref b1)]))
  refine Goes.go (fun _ k => XS.bipush X4.here hx rfl (hb hby at_20) k) ?_
  show Goes p e below s _ _ _ (T4.setTop (mkF m 22 #[.val (.int p0), .val (.int p1), .val (.int p2), .unset, .unset, .unset, .unset, .unset, .unset, .unset, .unset] [(.int (63 : Int32)), (.int (3 : Int32)), (.ref b1), (.ref b1)]))
  obtain ⟨T5, h5, X5, e5, W5, A5, st5⟩ := own_stC X4 hx hZ e4 A4 (i := 3) rfl (by decide) (g := (mkF m 22 #[.val (.int p0), .val (.int p1), .val (.int p2), .unset, .unset, .unset, .unset, .unset, .unset, .unset, .unset] [(.int (63 : Int32)), (.int (3 : Int32)), (.ref b1), (.ref b1)])) rfl rfl (hb hby at_22)
  have N5 := Fr.snoc X5 N4 gb1
  have Z5 := Nat.le_trans Z4 (Keep.of_wr W5).1
  have K5 := Keep.wr K4 W5 (Or.inr sb1)
  refine Goes.go st5 ?_
  show Goes p e below s _ _ _ (T5.setTop (mkF m 23 #[.val (.int p0), .val (.int p1), .val (.int p2), .unset, .unset, .unset, .unset, .unset, .unset, .unset, .unset] [(.ref b1)]))
  refine Goes.go (fun _ k => XS.dup X5.here hx rfl (hb hby at_23) rfl rfl k) ?_
  show Goes p e below s _ _ _ (T5.setTop (mkF m 24 #[.val (.int p0), .val (.int p1), .val (.int p2), .unset, .unset, .unset, .unset, .unset, .unset, .unset, .unset] [(.ref b1), (.ref b1)]))
  refine Goes.go (fun _ k => XS.iconst X5.here hx rfl (hb hby at_24) k) ?_
  show Goes p e below s _ _ _ (T5.setTop (mkF m 25 #[.val (.int p0), .val (.int p1), .val (.int p2), .unset, .unset, .unset, .unset, .unset, .unset, .unset, .unset] [(.int (4 : Int32)), (.ref b1), (.ref b1)]))
  refine Goes.go (fun _ k => XS.bipush X5.here hx rfl (hb hby at_25) k) ?_
  show Goes p e below s _ _ _ (T5.setTop (mkF m 27 #[.val (.int p0), .val (.int p1), .val (.int p2), .unset, .unset, .unset, .unset, .unset, .unset, .unset, .unset] [(.int (123 : Int32)), (.int (4 : Int32)), (.ref b1), (.ref b1)]))
  obtain ⟨T6, h6, X6, e6, W6, A6, st6⟩ := own_stC X5 hx hZ e5 A5 (i := 4) rfl (by decide) (g := (mkF m 27 #[.val (.int p0), .val (.int p1), .val (.int p2), .unset, .unset, .unset, .unset, .unset, .unset, .unset, .unset] [(.int (123 : Int32)), (.int (4 : Int32)), (.ref b1), (.ref b1)])) rfl rfl (hb hby at_27)
  have N6 := Fr.snoc X6 N5 gb1
  have Z6 := Nat.le_trans Z5 (Keep.of_wr W6).1
  have K6 := Keep.wr K5 W6 (Or.inr sb1)
  refine Goes.go st6 ?_
  show Goes p e below s _ _ _ (T6.setTop (mkF m 28 #[.val (.int p0), .val (.int p1), .val (.int p2), .unset, .unset, .unset, .unset, .unset, .unset, .unset, .unset] [(.ref b1)]))
  refine Goes.go (fun _ k => XS.dup X6.here hx rfl (hb hby at_28) rfl rfl k) ?_
  show Goes p e below s _ _ _ (T6.setTop (mkF m 29 #[.val (.int p0), .val (.int p1), .val (.int p2), .unset, .unset, .unset, .unset, .unset, .unset, .unset, .unset] [(.ref b1), (.ref b1)]))
  refine Goes.go (fun _ k => XS.iconst X6.here hx rfl (hb hby at_29) k) ?_
  show Goes p e below s _ _ _ (T6.setTop (mkF m 30 #[.val (.int p0), .val (.int p1), .val (.int p2), .unset, .unset, .unset, .unset, .unset, .unset, .unset, .unset] [(.int (5 : Int32)), (.ref b1), (.ref b1)]))
  refine Goes.go (fun _ k => XS.bipush X6.here hx rfl (hb hby at_30) k) ?_
  show Goes p e below s _ _ _ (T6.setTop (mkF m 32 #[.val (.int p0), .val (.int p1), .val (.int p2), .unset, .unset, .unset, .unset, .unset, .unset, .unset, .unset] [(.int (36 : Int32)), (.int (5 : Int32)), (.ref b1), (.ref b1)]))
  obtain ⟨T7, h7, X7, e7, W7, A7, st7⟩ := own_stC X6 hx hZ e6 A6 (i := 5) rfl (by decide) (g := (mkF m 32 #[.val (.int p0), .val (.int p1), .val (.int p2), .unset, .unset, .unset, .unset, .unset, .unset, .unset, .unset] [(.int (36 : Int32)), (.int (5 : Int32)), (.ref b1), (.ref b1)])) rfl rfl (hb hby at_32)
  have N7 := Fr.snoc X7 N6 gb1
  have Z7 := Nat.le_trans Z6 (Keep.of_wr W7).1
  have K7 := Keep.wr K6 W7 (Or.inr sb1)
  refine Goes.go st7 ?_
  show Goes p e below s _ _ _ (T7.setTop (mkF m 33 #[.val (.int p0), .val (.int p1), .val (.int p2), .unset, .unset, .unset, .unset, .unset, .unset, .unset, .unset] [(.ref b1)]))
  refine Goes.go (fun _ k => XS.dup X7.here hx rfl (hb hby at_33) rfl rfl k) ?_
  show Goes p e below s _ _ _ (T7.setTop (mkF m 34 #[.val (.int p0), .val (.int p1), .val (.int p2), .unset, .unset, .unset, .unset, .unset, .unset, .unset, .unset] [(.ref b1), (.ref b1)]))
  refine Goes.go (fun _ k => XS.bipush X7.here hx rfl (hb hby at_34) k) ?_
  show Goes p e below s _ _ _ (T7.setTop (mkF m 36 #[.val (.int p0), .val (.int p1), .val (.int p2), .unset, .unset, .unset, .unset, .unset, .unset, .unset, .unset] [(.int (6 : Int32)), (.ref b1), (.ref b1)]))
  refine Goes.go (fun _ k => XS.bipush X7.here hx rfl (hb hby at_36) k) ?_
  show Goes p e below s _ _ _ (T7.setTop (mkF m 38 #[.val (.int p0), .val (.int p1), .val (.int p2), .unset, .unset, .unset, .unset, .unset, .unset, .unset, .unset] [(.int (46 : Int32)), (.int (6 : Int32)), (.ref b1), (.ref b1)]))
  obtain ⟨T8, h8, X8, e8, W8, A8, st8⟩ := own_stC X7 hx hZ e7 A7 (i := 6) rfl (by decide) (g := (mkF m 38 #[.val (.int p0), .val (.int p1), .val (.int p2), .unset, .unset, .unset, .unset, .unset, .unset, .unset, .unset] [(.int (46 : Int32)), (.int (6 : Int32)), (.ref b1), (.ref b1)])) rfl rfl (hb hby at_38)
  have N8 := Fr.snoc X8 N7 gb1
  have Z8 := Nat.le_trans Z7 (Keep.of_wr W8).1
  have K8 := Keep.wr K7 W8 (Or.inr sb1)
  refine Goes.go st8 ?_
  show Goes p e below s _ _ _ (T8.setTop (mkF m 39 #[.val (.int p0), .val (.int p1), .val (.int p2), .unset, .unset, .unset, .unset, .unset, .unset, .unset, .unset] [(.ref b1)]))
  refine Goes.go (fun _ k => XS.dup X8.here hx rfl (hb hby at_39) rfl rfl k) ?_
  show Goes p e below s _ _ _ (T8.setTop (mkF m 40 #[.val (.int p0), .val (.int p1), .val (.int p2), .unset, .unset, .unset, .unset, .unset, .unset, .unset, .unset] [(.ref b1), (.ref b1)]))
  refine Goes.go (fun _ k => XS.bipush X8.here hx rfl (hb hby at_40) k) ?_
  show Goes p e below s _ _ _ (T8.setTop (mkF m 42 #[.val (.int p0), .val (.int p1), .val (.int p2), .unset, .unset, .unset, .unset, .unset, .unset, .unset, .unset] [(.int (7 : Int32)), (.ref b1), (.ref b1)]))
  refine Goes.go (fun _ k => XS.bipush X8.here hx rfl (hb hby at_42) k) ?_
  show Goes p e below s _ _ _ (T8.setTop (mkF m 44 #[.val (.int p0), .val (.int p1), .val (.int p2), .unset, .unset, .unset, .unset, .unset, .unset, .unset, .unset] [(.int (94 : Int32)), (.int (7 : Int32)), (.ref b1), (.ref b1)]))
  obtain ⟨T9, h9, X9, e9, W9, A9, st9⟩ := own_stC X8 hx hZ e8 A8 (i := 7) rfl (by decide) (g := (mkF m 44 #[.val (.int p0), .val (.int p1), .val (.int p2), .unset, .unset, .unset, .unset, .unset, .unset, .unset, .unset] [(.int (94 : Int32)), (.int (7 : Int32)), (.ref b1), (.ref b1)])) rfl rfl (hb hby at_44)
  have N9 := Fr.snoc X9 N8 gb1
  have Z9 := Nat.le_trans Z8 (Keep.of_wr W9).1
  have K9 := Keep.wr K8 W9 (Or.inr sb1)
  refine Goes.go st9 ?_
  show Goes p e below s _ _ _ (T9.setTop (mkF m 45 #[.val (.int p0), .val (.int p1), .val (.int p2), .unset, .unset, .unset, .unset, .unset, .unset, .unset, .unset] [(.ref b1)]))
  refine Goes.go (fun _ k => XS.dup X9.here hx rfl (hb hby at_45) rfl rfl k) ?_
  show Goes p e below s _ _ _ (T9.setTop (mkF m 46 #[.val (.int p0), .val (.int p1), .val (.int p2), .unset, .unset, .unset, .unset, .unset, .unset, .unset, .unset] [(.ref b1), (.ref b1)]))
  refine Goes.go (fun _ k => XS.bipush X9.here hx rfl (hb hby at_46) k) ?_
  show Goes p e below s _ _ _ (T9.setTop (mkF m 48 #[.val (.int p0), .val (.int p1), .val (.int p2), .unset, .unset, .unset, .unset, .unset, .unset, .unset, .unset] [(.int (8 : Int32)), (.ref b1), (.ref b1)]))
  refine Goes.go (fun _ k => XS.bipush X9.here hx rfl (hb hby at_48) k) ?_
  show Goes p e below s _ _ _ (T9.setTop (mkF m 50 #[.val (.int p0), .val (.int p1), .val (.int p2), .unset, .unset, .unset, .unset, .unset, .unset, .unset, .unset] [(.int (40 : Int32)), (.int (8 : Int32)), (.ref b1), (.ref b1)]))
  obtain ⟨T10, h10, X10, e10, W10, A10, st10⟩ := own_stC X9 hx hZ e9 A9 (i := 8) rfl (by decide) (g := (mkF m 50 #[.val (.int p0), .val (.int p1), .val (.int p2), .unset, .unset, .unset, .unset, .unset, .unset, .unset, .unset] [(.int (40 : Int32)), (.int (8 : Int32)), (.ref b1), (.ref b1)])) rfl rfl (hb hby at_50)
  have N10 := Fr.snoc X10 N9 gb1
  have Z10 := Nat.le_trans Z9 (Keep.of_wr W10).1
  have K10 := Keep.wr K9 W10 (Or.inr sb1)
  refine Goes.go st10 ?_
  show Goes p e below s _ _ _ (T10.setTop (mkF m 51 #[.val (.int p0), .val (.int p1), .val (.int p2), .unset, .unset, .unset, .unset, .unset, .unset, .unset, .unset] [(.ref b1)]))
  refine Goes.go (fun _ k => XS.dup X10.here hx rfl (hb hby at_51) rfl rfl k) ?_
  show Goes p e below s _ _ _ (T10.setTop (mkF m 52 #[.val (.int p0), .val (.int p1), .val (.int p2), .unset, .unset, .unset, .unset, .unset, .unset, .unset, .unset] [(.ref b1), (.ref b1)]))
  refine Goes.go (fun _ k => XS.bipush X10.here hx rfl (hb hby at_52) k) ?_
  show Goes p e below s _ _ _ (T10.setTop (mkF m 54 #[.val (.int p0), .val (.int p1), .val (.int p2), .unset, .unset, .unset, .unset, .unset, .unset, .unset, .unset] [(.int (9 : Int32)), (.ref b1), (.ref b1)]))
  refine Goes.go (fun _ k => XS.bipush X10.here hx rfl (hb hby at_54) k) ?_
  show Goes p e below s _ _ _ (T10.setTop (mkF m 56 #[.val (.int p0), .val (.int p1), .val (.int p2), .unset, .unset, .unset, .unset, .unset, .unset, .unset, .unset] [(.int (91 : Int32)), (.int (9 : Int32)), (.ref b1), (.ref b1)]))
  obtain ⟨T11, h11, X11, e11, W11, A11, st11⟩ := own_stC X10 hx hZ e10 A10 (i := 9) rfl (by decide) (g := (mkF m 56 #[.val (.int p0), .val (.int p1), .val (.int p2), .unset, .unset, .unset, .unset, .unset, .unset, .unset, .unset] [(.int (91 : Int32)), (.int (9 : Int32)), (.ref b1), (.ref b1)])) rfl rfl (hb hby at_56)
  have N11 := Fr.snoc X11 N10 gb1
  have Z11 := Nat.le_trans Z10 (Keep.of_wr W11).1
  have K11 := Keep.wr K10 W11 (Or.inr sb1)
  refine Goes.go st11 ?_
  show Goes p e below s _ _ _ (T11.setTop (mkF m 57 #[.val (.int p0), .val (.int p1), .val (.int p2), .unset, .unset, .unset, .unset, .unset, .unset, .unset, .unset] [(.ref b1)]))
  refine Goes.go (fun _ k => XS.dup X11.here hx rfl (hb hby at_57) rfl rfl k) ?_
  show Goes p e below s _ _ _ (T11.setTop (mkF m 58 #[.val (.int p0), .val (.int p1), .val (.int p2), .unset, .unset, .unset, .unset, .unset, .unset, .unset, .unset] [(.ref b1), (.ref b1)]))
  refine Goes.go (fun _ k => XS.bipush X11.here hx rfl (hb hby at_58) k) ?_
  show Goes p e below s _ _ _ (T11.setTop (mkF m 60 #[.val (.int p0), .val (.int p1), .val (.int p2), .unset, .unset, .unset, .unset, .unset, .unset, .unset, .unset] [(.int (10 : Int32)), (.ref b1), (.ref b1)]))
  refine Goes.go (fun _ k => XS.bipush X11.here hx rfl (hb hby at_60) k) ?_
  show Goes p e below s _ _ _ (T11.setTop (mkF m 62 #[.val (.int p0), .val (.int p1), .val (.int p2), .unset, .unset, .unset, .unset, .unset, .unset, .unset, .unset] [(.int (124 : Int32)), (.int (10 : Int32)), (.ref b1), (.ref b1)]))
  obtain ⟨T12, h12, X12, e12, W12, A12, st12⟩ := own_stC X11 hx hZ e11 A11 (i := 10) rfl (by decide) (g := (mkF m 62 #[.val (.int p0), .val (.int p1), .val (.int p2), .unset, .unset, .unset, .unset, .unset, .unset, .unset, .unset] [(.int (124 : Int32)), (.int (10 : Int32)), (.ref b1), (.ref b1)])) rfl rfl (hb hby at_62)
  have N12 := Fr.snoc X12 N11 gb1
  have Z12 := Nat.le_trans Z11 (Keep.of_wr W12).1
  have K12 := Keep.wr K11 W12 (Or.inr sb1)
  refine Goes.go st12 ?_
  show Goes p e below s _ _ _ (T12.setTop (mkF m 63 #[.val (.int p0), .val (.int p1), .val (.int p2), .unset, .unset, .unset, .unset, .unset, .unset, .unset, .unset] [(.ref b1)]))
  refine Goes.go (fun _ k => XS.dup X12.here hx rfl (hb hby at_63) rfl rfl k) ?_
  show Goes p e below s _ _ _ (T12.setTop (mkF m 64 #[.val (.int p0), .val (.int p1), .val (.int p2), .unset, .unset, .unset, .unset, .unset, .unset, .unset, .unset] [(.ref b1), (.ref b1)]))
  refine Goes.go (fun _ k => XS.bipush X12.here hx rfl (hb hby at_64) k) ?_
  show Goes p e below s _ _ _ (T12.setTop (mkF m 66 #[.val (.int p0), .val (.int p1), .val (.int p2), .unset, .unset, .unset, .unset, .unset, .unset, .unset, .unset] [(.int (11 : Int32)), (.ref b1), (.ref b1)]))
  refine Goes.go (fun _ k => XS.bipush X12.here hx rfl (hb hby at_66) k) ?_
  show Goes p e below s _ _ _ (T12.setTop (mkF m 68 #[.val (.int p0), .val (.int p1), .val (.int p2), .unset, .unset, .unset, .unset, .unset, .unset, .unset, .unset] [(.int (41 : Int32)), (.int (11 : Int32)), (.ref b1), (.ref b1)]))
  obtain ⟨T13, h13, X13, e13, W13, A13, st13⟩ := own_stC X12 hx hZ e12 A12 (i := 11) rfl (by decide) (g := (mkF m 68 #[.val (.int p0), .val (.int p1), .val (.int p2), .unset, .unset, .unset, .unset, .unset, .unset, .unset, .unset] [(.int (41 : Int32)), (.int (11 : Int32)), (.ref b1), (.ref b1)])) rfl rfl (hb hby at_68)
  have N13 := Fr.snoc X13 N12 gb1
  have Z13 := Nat.le_trans Z12 (Keep.of_wr W13).1
  have K13 := Keep.wr K12 W13 (Or.inr sb1)
  refine Goes.go st13 ?_
  show Goes p e below s _ _ _ (T13.setTop (mkF m 69 #[.val (.int p0), .val (.int p1), .val (.int p2), .unset, .unset, .unset, .unset, .unset, .unset, .unset, .unset] [(.ref b1)]))
  refine Goes.go (fun _ k => XS.dup X13.here hx rfl (hb hby at_69) rfl rfl k) ?_
  show Goes p e below s _ _ _ (T13.setTop (mkF m 70 #[.val (.int p0), .val (.int p1), .val (.int p2), .unset, .unset, .unset, .unset, .unset, .unset, .unset, .unset] [(.ref b1), (.ref b1)]))
  refine Goes.go (fun _ k => XS.bipush X13.here hx rfl (hb hby at_70) k) ?_
  show Goes p e below s _ _ _ (T13.setTop (mkF m 72 #[.val (.int p0), .val (.int p1), .val (.int p2), .unset, .unset, .unset, .unset, .unset, .unset, .unset, .unset] [(.int (12 : Int32)), (.ref b1), (.ref b1)]))
  refine Goes.go (fun _ k => XS.bipush X13.here hx rfl (hb hby at_72) k) ?_
  show Goes p e below s _ _ _ (T13.setTop (mkF m 74 #[.val (.int p0), .val (.int p1), .val (.int p2), .unset, .unset, .unset, .unset, .unset, .unset, .unset, .unset] [(.int (92 : Int32)), (.int (12 : Int32)), (.ref b1), (.ref b1)]))
  obtain ⟨T14, h14, X14, e14, W14, A14, st14⟩ := own_stC X13 hx hZ e13 A13 (i := 12) rfl (by decide) (g := (mkF m 74 #[.val (.int p0), .val (.int p1), .val (.int p2), .unset, .unset, .unset, .unset, .unset, .unset, .unset, .unset] [(.int (92 : Int32)), (.int (12 : Int32)), (.ref b1), (.ref b1)])) rfl rfl (hb hby at_74)
  have N14 := Fr.snoc X14 N13 gb1
  have Z14 := Nat.le_trans Z13 (Keep.of_wr W14).1
  have K14 := Keep.wr K13 W14 (Or.inr sb1)
  refine Goes.go st14 ?_
  show Goes p e below s _ _ _ (T14.setTop (mkF m 75 #[.val (.int p0), .val (.int p1), .val (.int p2), .unset, .unset, .unset, .unset, .unset, .unset, .unset, .unset] [(.ref b1)]))
  refine Goes.go (fun _ k => XS.astoreN X14.here hx rfl (hb hby at_75) rfl rfl (l' := #[.val (.int p0), .val (.int p1), .val (.int p2), .val (.ref b1), .unset, .unset, .unset, .unset, .unset, .unset, .unset]) rfl k) ?_
  obtain ⟨n, hn, en⟩ := own_modN p1 13 (by decide) (by decide)
  show Goes p e below s _ _ _ (T14.setTop (mkF m 76 #[.val (.int p0), .val (.int p1), .val (.int p2), .val (.ref b1), .unset, .unset, .unset, .unset, .unset, .unset, .unset] []))
  refine Goes.go (fun _ k => XS.aloadN X14.here hx rfl (hb hby at_76) rfl rfl  k) ?_
  show Goes p e below s _ _ _ (T14.setTop (mkF m 77 #[.val (.int p0), .val (.int p1), .val (.int p2), .val (.ref b1), .unset, .unset, .unset, .unset, .unset, .unset, .unset] [(.ref b1)]))
  refine Goes.go (fun _ k => XS.iloadN X14.here hx rfl (hb hby at_77) rfl  k) ?_
  show Goes p e below s _ _ _ (T14.setTop (mkF m 78 #[.val (.int p0), .val (.int p1), .val (.int p2), .val (.ref b1), .unset, .unset, .unset, .unset, .unset, .unset, .unset] [(.int p1), (.ref b1)]))
  refine Goes.go (fun _ k => X14.ldcInt hx hown (mvT hZ (hw _ (List.mem_of_getElem? (i := 1) rfl))) (g := (mkF m 78 #[.val (.int p0), .val (.int p1), .val (.int p2), .val (.ref b1), .unset, .unset, .unset, .unset, .unset, .unset, .unset] [(.int p1), (.ref b1)])) rfl (hb hby at_78) _ k) ?_
  show Goes p e below s _ _ _ (T14.setTop (mkF m 80 #[.val (.int p0), .val (.int p1), .val (.int p2), .val (.ref b1), .unset, .unset, .unset, .unset, .unset, .unset, .unset] [(.int (2147483647 : Int32)), (.int p1), (.ref b1)]))
  refine Goes.go (fun _ k => XS.iand X14.here hx rfl (hb hby at_80) rfl k) ?_
  show Goes p e below s _ _ _ (T14.setTop (mkF m 81 #[.val (.int p0), .val (.int p1), .val (.int p2), .val (.ref b1), .unset, .unset, .unset, .unset, .unset, .unset, .unset] [(.int (p1 &&& (2147483647 : Int32))), (.ref b1)]))
  refine Goes.go (fun _ k => XS.bipush X14.here hx rfl (hb hby at_81) k) ?_
  show Goes p e below s _ _ _ (T14.setTop (mkF m 83 #[.val (.int p0), .val (.int p1), .val (.int p2), .val (.ref b1), .unset, .unset, .unset, .unset, .unset, .unset, .unset] [(.int (13 : Int32)), (.int (p1 &&& (2147483647 : Int32))), (.ref b1)]))
  refine Goes.go (fun _ k => own_irem X14.here hx rfl (hb hby at_83) rfl (by decide) k) ?_
  show Goes p e below s _ _ _ (T14.setTop (mkF m 84 #[.val (.int p0), .val (.int p1), .val (.int p2), .val (.ref b1), .unset, .unset, .unset, .unset, .unset, .unset, .unset] [(.int ((p1 &&& (2147483647 : Int32)) % (13 : Int32))), (.ref b1)]))
  refine Goes.go (own_ldC X14 hx hZ e14 A14 (i := n) en hn (g := (mkF m 84 #[.val (.int p0), .val (.int p1), .val (.int p2), .val (.ref b1), .unset, .unset, .unset, .unset, .unset, .unset, .unset] [(.int ((p1 &&& (2147483647 : Int32)) % (13 : Int32))), (.ref b1)])) rfl rfl (hb hby at_84)) ?_
  have hM : ∀ i : Fin 13, f1 ((own_upd (own_upd (own_upd (own_upd (own_upd (own_upd (own_upd (own_upd (own_upd (own_upd (own_upd (own_upd (own_upd (fun _ => 0) 0 (nar .char (0 : Int32))) 1 (nar .char (42 : Int32))) 2 (nar .char (43 : Int32))) 3 (nar .char (63 : Int32))) 4 (nar .char (123 : Int32))) 5 (nar .char (36 : Int32))) 6 (nar .char (46 : Int32))) 7 (nar .char (94 : Int32))) 8 (nar .char (40 : Int32))) 9 (nar .char (91 : Int32))) 10 (nar .char (124 : Int32))) 11 (nar .char (41 : Int32))) 12 (nar .char (92 : Int32))) i.val) = 0 ∧ 0 ≤ ((own_upd (own_upd (own_upd (own_upd (own_upd (own_upd (own_upd (own_upd (own_upd (own_upd (own_upd (own_upd (own_upd (fun _ => 0) 0 (nar .char (0 : Int32))) 1 (nar .char (42 : Int32))) 2 (nar .char (43 : Int32))) 3 (nar .char (63 : Int32))) 4 (nar .char (123 : Int32))) 5 (nar .char (36 : Int32))) 6 (nar .char (46 : Int32))) 7 (nar .char (94 : Int32))) 8 (nar .char (40 : Int32))) 9 (nar .char (91 : Int32))) 10 (nar .char (124 : Int32))) 11 (nar .char (41 : Int32))) 12 (nar .char (92 : Int32))) i.val).toInt ∧ ((own_upd (own_upd (own_upd (own_upd (own_upd (own_upd (own_upd (own_upd (own_upd (own_upd (own_upd (own_upd (own_upd (fun _ => 0) 0 (nar .char (0 : Int32))) 1 (nar .char (42 : Int32))) 2 (nar .char (43 : Int32))) 3 (nar .char (63 : Int32))) 4 (nar .char (123 : Int32))) 5 (nar .char (36 : Int32))) 6 (nar .char (46 : Int32))) 7 (nar .char (94 : Int32))) 8 (nar .char (40 : Int32))) 9 (nar .char (91 : Int32))) 10 (nar .char (124 : Int32))) 11 (nar .char (41 : Int32))) 12 (nar .char (92 : Int32))) i.val).toInt ≤ 124 ∧ f1 (((own_upd (own_upd (own_upd (own_upd (own_upd (own_upd (own_upd (own_upd (own_upd (own_upd (own_upd (own_upd (own_upd (fun _ => 0) 0 (nar .char (0 : Int32))) 1 (nar .char (42 : Int32))) 2 (nar .char (43 : Int32))) 3 (nar .char (63 : Int32))) 4 (nar .char (123 : Int32))) 5 (nar .char (36 : Int32))) 6 (nar .char (46 : Int32))) 7 (nar .char (94 : Int32))) 8 (nar .char (40 : Int32))) 9 (nar .char (91 : Int32))) 10 (nar .char (124 : Int32))) 11 (nar .char (41 : Int32))) 12 (nar .char (92 : Int32))) i.val) ||| (-2147483648 : Int32)) = 1 := by decide +kernel
  have hM1 := hM ⟨n, hn⟩
  clear hM
  dsimp only at hM1
  generalize d_mm : ((own_upd (own_upd (own_upd (own_upd (own_upd (own_upd (own_upd (own_upd (own_upd (own_upd (own_upd (own_upd (own_upd (fun _ => 0) 0 (nar .char (0 : Int32))) 1 (nar .char (42 : Int32))) 2 (nar .char (43 : Int32))) 3 (nar .char (63 : Int32))) 4 (nar .char (123 : Int32))) 5 (nar .char (36 : Int32))) 6 (nar .char (46 : Int32))) 7 (nar .char (94 : Int32))) 8 (nar .char (40 : Int32))) 9 (nar .char (91 : Int32))) 10 (nar .char (124 : Int32))) 11 (nar .char (41 : Int32))) 12 (nar .char (92 : Int32))) n) = mm at hM1 ⊢
  show Goes p e below s _ _ _ (T14.setTop (mkF m 85 #[.val (.int p0), .val (.int p1), .val (.int p2), .val (.ref b1), .unset, .unset, .unset, .unset, .unset, .unset, .unset] [(.int mm)]))
  refine Goes.go (fun _ k => XS.istore X14.here hx rfl (hb hby at_85) rfl (l' := #[.val (.int p0), .val (.int p1), .val (.int p2), .val (.ref b1), .val (.int mm), .unset, .unset, .unset, .unset, .unset, .unset]) rfl k) ?_
  show Goes p e below s _ _ _ (T14.setTop (mkF m 87 #[.val (.int p0), .val (.int p1), .val (.int p2), .val (.ref b1), .val (.int mm), .unset, .unset, .unset, .unset, .unset, .unset] []))
  refine Goes.go (fun _ k => XS.iload X14.here hx rfl (hb hby at_87) rfl  k) ?_
  show Goes p e below s _ _ _ (T14.setTop (mkF m 89 #[.val (.int p0), .val (.int p1), .val (.int p2), .val (.ref b1), .val (.int mm), .unset, .unset, .unset, .unset, .unset, .unset] [(.int mm)]))
  refine Goes.go (fun _ k => XS.iloadN X14.here hx rfl (hb hby at_89) rfl  k) ?_
  show Goes p e below s _ _ _ (T14.setTop (mkF m 90 #[.val (.int p0), .val (.int p1), .val (.int p2), .val (.ref b1), .val (.int mm), .unset, .unset, .unset, .unset, .unset, .unset] [(.int p2), (.int mm)]))
  refine Goes.go (fun _ k => XS.sipush X14.here hx rfl (hb hby at_90) k) ?_
  show Goes p e below s _ _ _ (T14.setTop (mkF m 93 #[.val (.int p0), .val (.int p1), .val (.int p2), .val (.ref b1), .val (.int mm), .unset, .unset, .unset, .unset, .unset, .unset] [(.int (16383 : Int32)), (.int p2), (.int mm)]))
  refine Goes.go (fun _ k => XS.iand X14.here hx rfl (hb hby at_93) rfl k) ?_
  show Goes p e below s _ _ _ (T14.setTop (mkF m 94 #[.val (.int p0), .val (.int p1), .val (.int p2), .val (.ref b1), .val (.int mm), .unset, .unset, .unset, .unset, .unset, .unset] [(.int (p2 &&& (16383 : Int32))), (.int mm)]))
  refine Goes.go (fun _ k => XS.iconst X14.here hx rfl (hb hby at_94) k) ?_
  show Goes p e below s _ _ _ (T14.setTop (mkF m 95 #[.val (.int p0), .val (.int p1), .val (.int p2), .val (.ref b1), .val (.int mm), .unset, .unset, .unset, .unset, .unset, .unset] [(.int (1 : Int32)), (.int (p2 &&& (16383 : Int32))), (.int mm)]))
  refine Goes.go (fun _ k => XS.iadd X14.here hx rfl (hb hby at_95) rfl k) ?_
  show Goes p e below s _ _ _ (T14.setTop (mkF m 96 #[.val (.int p0), .val (.int p1), .val (.int p2), .val (.ref b1), .val (.int mm), .unset, .unset, .unset, .unset, .unset, .unset] [(.int ((p2 &&& (16383 : Int32)) + (1 : Int32))), (.int mm)]))
  refine Goes.go (fun _ k => X14.ldcInt hx hown (mvT hZ (hw _ (List.mem_of_getElem? (i := 2) rfl))) (g := (mkF m 96 #[.val (.int p0), .val (.int p1), .val (.int p2), .val (.ref b1), .val (.int mm), .unset, .unset, .unset, .unset, .unset, .unset] [(.int ((p2 &&& (16383 : Int32)) + (1 : Int32))), (.int mm)])) rfl (hb hby at_96) _ k) ?_
  show Goes p e below s _ _ _ (T14.setTop (mkF m 98 #[.val (.int p0), .val (.int p1), .val (.int p2), .val (.ref b1), .val (.int mm), .unset, .unset, .unset, .unset, .unset, .unset] [(.int (65536 : Int32)), (.int ((p2 &&& (16383 : Int32)) + (1 : Int32))), (.int mm)]))
  refine Goes.go (fun _ k => XS.imul X14.here hx rfl (hb hby at_98) rfl k) ?_
  show Goes p e below s _ _ _ (T14.setTop (mkF m 99 #[.val (.int p0), .val (.int p1), .val (.int p2), .val (.ref b1), .val (.int mm), .unset, .unset, .unset, .unset, .unset, .unset] [(.int (((p2 &&& (16383 : Int32)) + (1 : Int32)) * (65536 : Int32))), (.int mm)]))
  refine Goes.go (fun _ k => XS.iadd X14.here hx rfl (hb hby at_99) rfl k) ?_
  show Goes p e below s _ _ _ (T14.setTop (mkF m 100 #[.val (.int p0), .val (.int p1), .val (.int p2), .val (.ref b1), .val (.int mm), .unset, .unset, .unset, .unset, .unset, .unset] [(.int (mm + (((p2 &&& (16383 : Int32)) + (1 : Int32)) * (65536 : Int32))))]))
  refine Goes.go (fun _ k => XS.istore X14.here hx rfl (hb hby at_100) rfl (l' := #[.val (.int p0), .val (.int p1), .val (.int p2), .val (.ref b1), .val (.int mm), .val (.int (mm + (((p2 &&& (16383 : Int32)) + (1 : Int32)) * (65536 : Int32)))), .unset, .unset, .unset, .unset, .unset]) rfl k) ?_
  show Goes p e below s _ _ _ (T14.setTop (mkF m 102 #[.val (.int p0), .val (.int p1), .val (.int p2), .val (.ref b1), .val (.int mm), .val (.int (mm + (((p2 &&& (16383 : Int32)) + (1 : Int32)) * (65536 : Int32)))), .unset, .unset, .unset, .unset, .unset] []))
  refine Goes.go (fun _ k => XS.iload X14.here hx rfl (hb hby at_102) rfl  k) ?_
  show Goes p e below s _ _ _ (T14.setTop (mkF m 104 #[.val (.int p0), .val (.int p1), .val (.int p2), .val (.ref b1), .val (.int mm), .val (.int (mm + (((p2 &&& (16383 : Int32)) + (1 : Int32)) * (65536 : Int32)))), .unset, .unset, .unset, .unset, .unset] [(.int mm)]))
  refine Goes.go (fun _ k => X14.ldcInt hx hown (mvT hZ (hw _ (List.mem_of_getElem? (i := 3) rfl))) (g := (mkF m 104 #[.val (.int p0), .val (.int p1), .val (.int p2), .val (.ref b1), .val (.int mm), .val (.int (mm + (((p2 &&& (16383 : Int32)) + (1 : Int32)) * (65536 : Int32)))), .unset, .unset, .unset, .unset, .unset] [(.int mm)])) rfl (hb hby at_104) _ k) ?_
  show Goes p e below s _ _ _ (T14.setTop (mkF m 106 #[.val (.int p0), .val (.int p1), .val (.int p2), .val (.ref b1), .val (.int mm), .val (.int (mm + (((p2 &&& (16383 : Int32)) + (1 : Int32)) * (65536 : Int32)))), .unset, .unset, .unset, .unset, .unset] [(.int (-2147483648 : Int32)), (.int mm)]))
  refine Goes.go (fun _ k => XS.ior X14.here hx rfl (hb hby at_106) rfl k) ?_
  show Goes p e below s _ _ _ (T14.setTop (mkF m 107 #[.val (.int p0), .val (.int p1), .val (.int p2), .val (.ref b1), .val (.int mm), .val (.int (mm + (((p2 &&& (16383 : Int32)) + (1 : Int32)) * (65536 : Int32)))), .unset, .unset, .unset, .unset, .unset] [(.int (mm ||| (-2147483648 : Int32)))]))
  refine Goes.go (fun _ k => XS.istore X14.here hx rfl (hb hby at_107) rfl (l' := #[.val (.int p0), .val (.int p1), .val (.int p2), .val (.ref b1), .val (.int mm), .val (.int (mm + (((p2 &&& (16383 : Int32)) + (1 : Int32)) * (65536 : Int32)))), .val (.int (mm ||| (-2147483648 : Int32))), .unset, .unset, .unset, .unset]) rfl k) ?_
  show Goes p e below s _ _ _ (T14.setTop (mkF m 109 #[.val (.int p0), .val (.int p1), .val (.int p2), .val (.ref b1), .val (.int mm), .val (.int (mm + (((p2 &&& (16383 : Int32)) + (1 : Int32)) * (65536 : Int32)))), .val (.int (mm ||| (-2147483648 : Int32))), .unset, .unset, .unset, .unset] []))
  refine Goes.go (fun _ k => XS.iloadN X14.here hx rfl (hb hby at_109) rfl  k) ?_
  show Goes p e below s _ _ _ (T14.setTop (mkF m 110 #[.val (.int p0), .val (.int p1), .val (.int p2), .val (.ref b1), .val (.int mm), .val (.int (mm + (((p2 &&& (16383 : Int32)) + (1 : Int32)) * (65536 : Int32)))), .val (.int (mm ||| (-2147483648 : Int32))), .unset, .unset, .unset, .unset] [(.int p0)]))
  obtain ⟨_, _, ⟨T15, L15, k15, n15⟩, -, X15, ⟨Lc15, hQ15, l15, y15, z15⟩, st15⟩ := Jvm.LawKit.callS X14 hx (y := (⟨"com/example/brisk_sieve/brisksieve/text/RegexChars", "isPlain", "(I)Z"⟩ : MethodName)) hown (mvT hZ (hw _ (List.mem_of_getElem? (i := 4) rfl))) (mvT hZ (hw _ (List.mem_of_getElem? (i := 5) rfl))) (mvT hZ (hw _ (List.mem_of_getElem? (i := 6) rfl))) (mvT hZ (hw _ (List.mem_of_getElem? (i := 7) rfl))) (by decide) (backOf (W := 0) (rm1 l Z a0 hw [] p0 h14 n0 Z14 ) hZ (hw _ (List.mem_of_getElem? (i := 7) rfl)) (hw _ (List.mem_of_getElem? (i := 6) rfl)) (by decide) (by decide)) (g := (mkF m 110 #[.val (.int p0), .val (.int p1), .val (.int p2), .val (.ref b1), .val (.int mm), .val (.int (mm + (((p2 &&& (16383 : Int32)) + (1 : Int32)) * (65536 : Int32)))), .val (.int (mm ||| (-2147483648 : Int32))), .unset, .unset, .unset, .unset] [(.int p0)])) rfl (by rw [hml]; rfl) (argsL := [(.int p0)]) (rest := []) (lenOf pd_0 rfl) rfl (by show 2 * 0 + _ ≤ _; exact Nat.le_of_eq rfl) (hb hby at_110) (fun _ _ => ⟨rfl, e14, (by decide : 1 + 0 ≤ _), (by decide : 13 + 0 ≤ _)⟩)
  dsimp only [Pt.U, Pt.locs, Pt.cells, Pt.slots] at X15 l15 y15 z15 st15 hQ15
  subst l15 y15 z15
  obtain ⟨rfl, N15q, e15⟩ := hQ15
  have N15 := Fr.app N14 N15q
  refine Goes.go st15 ?_
  show Goes p e below s _ _ _ (T15.setTop (mkF m 113 #[.val (.int p0), .val (.int p1), .val (.int p2), .val (.ref b1), .val (.int mm), .val (.int (mm + (((p2 &&& (16383 : Int32)) + (1 : Int32)) * (65536 : Int32)))), .val (.int (mm ||| (-2147483648 : Int32))), .unset, .unset, .unset, .unset] [(.int (f1 p0))]))
  refine Goes.go (fun _ k => XS.iloadN X15.here hx rfl (hb hby at_113) rfl  k) ?_
  show Goes p e below s _ _ _ (T15.setTop (mkF m 114 #[.val (.int p0), .val (.int p1), .val (.int p2), .val (.ref b1), .val (.int mm), .val (.int (mm + (((p2 &&& (16383 : Int32)) + (1 : Int32)) * (65536 : Int32)))), .val (.int (mm ||| (-2147483648 : Int32))), .unset, .unset, .unset, .unset] [(.int p0), (.int (f1 p0))]))
  obtain ⟨_, _, ⟨T16, L16, k16, n16⟩, -, X16, ⟨Lc16, hQ16, l16, y16, z16⟩, st16⟩ := Jvm.LawKit.callS X15 hx (y := (⟨"com/example/brisk_sieve/brisksieve/text/RegexCharsIsPlainPinLaw", "reference", "(I)Z"⟩ : MethodName)) hown (mvT hZ (hw _ (List.mem_of_getElem? (i := 8) rfl))) (mvT hZ (hw _ (List.mem_of_getElem? (i := 9) rfl))) (mvT hZ (hw _ (List.mem_of_getElem? (i := 10) rfl))) (mvT hZ (hw _ (List.mem_of_getElem? (i := 11) rfl))) (by decide) (backOf (W := 1) (rm2 l Z a0 hw [] p0 h14 n0 Z14 ) hZ (hw _ (List.mem_of_getElem? (i := 11) rfl)) (hw _ (List.mem_of_getElem? (i := 10) rfl)) (by decide) (by decide)) (g := (mkF m 114 #[.val (.int p0), .val (.int p1), .val (.int p2), .val (.ref b1), .val (.int mm), .val (.int (mm + (((p2 &&& (16383 : Int32)) + (1 : Int32)) * (65536 : Int32)))), .val (.int (mm ||| (-2147483648 : Int32))), .unset, .unset, .unset, .unset] [(.int p0), (.int (f1 p0))])) rfl (by rw [hml]; rfl) (argsL := [(.int p0)]) (rest := [(.int (f1 p0))]) (lenOf pd_0 rfl) rfl (by show 2 * 0 + _ ≤ _; exact Nat.le_of_eq rfl) (hb hby at_114) (fun _ _ => ⟨rfl, e15, (by decide : 1 + 0 ≤ _), (by decide : 13 + 0 ≤ _)⟩)
  dsimp only [Pt.U, Pt.locs, Pt.cells, Pt.slots] at X16 l16 y16 z16 st16 hQ16
  subst l16 y16 z16
  obtain ⟨rfl, N16q, e16⟩ := hQ16
  have N16 := Fr.app N15 N16q
  refine Goes.go st16 ?_
  show Goes p e below s _ _ _ (T16.setTop (mkF m 117 #[.val (.int p0), .val (.int p1), .val (.int p2), .val (.ref b1), .val (.int mm), .val (.int (mm + (((p2 &&& (16383 : Int32)) + (1 : Int32)) * (65536 : Int32)))), .val (.int (mm ||| (-2147483648 : Int32))), .unset, .unset, .unset, .unset] [(.int (f2 p0)), (.int (f1 p0))]))
  have hc117_17 : (f1 p0) = (f2 p0) := own_eq _
  refine Goes.go (fun _ k => XS.icmpNo X16.here hx rfl (hb hby at_117) rfl (teq hc117_17).2 k) ?_
  show Goes p e below s _ _ _ (T16.setTop (mkF m 120 #[.val (.int p0), .val (.int p1), .val (.int p2), .val (.ref b1), .val (.int mm), .val (.int (mm + (((p2 &&& (16383 : Int32)) + (1 : Int32)) * (65536 : Int32)))), .val (.int (mm ||| (-2147483648 : Int32))), .unset, .unset, .unset, .unset] []))
  refine Goes.go (fun _ k => XS.iconst X16.here hx rfl (hb hby at_120) k) ?_
  show Goes p e below s _ _ _ (T16.setTop (mkF m 121 #[.val (.int p0), .val (.int p1), .val (.int p2), .val (.ref b1), .val (.int mm), .val (.int (mm + (((p2 &&& (16383 : Int32)) + (1 : Int32)) * (65536 : Int32)))), .val (.int (mm ||| (-2147483648 : Int32))), .unset, .unset, .unset, .unset] [(.int (1 : Int32))]))
  refine Goes.go (fun _ k => XS.goto X16.here hx rfl (pc0 := 121) (pc' := 125) rfl (hb hby at_121) (by decide) (by decide) k) ?_
  show Goes p e below s _ _ _ (T16.setTop (mkF m 125 #[.val (.int p0), .val (.int p1), .val (.int p2), .val (.ref b1), .val (.int mm), .val (.int (mm + (((p2 &&& (16383 : Int32)) + (1 : Int32)) * (65536 : Int32)))), .val (.int (mm ||| (-2147483648 : Int32))), .unset, .unset, .unset, .unset] [(.int (1 : Int32))]))
  refine Goes.go (fun _ k => XS.istore X16.here hx rfl (hb hby at_125) rfl (l' := #[.val (.int p0), .val (.int p1), .val (.int p2), .val (.ref b1), .val (.int mm), .val (.int (mm + (((p2 &&& (16383 : Int32)) + (1 : Int32)) * (65536 : Int32)))), .val (.int (mm ||| (-2147483648 : Int32))), .val (.int (1 : Int32)), .unset, .unset, .unset]) rfl k) ?_
  show Goes p e below s _ _ _ (T16.setTop (mkF m 127 #[.val (.int p0), .val (.int p1), .val (.int p2), .val (.ref b1), .val (.int mm), .val (.int (mm + (((p2 &&& (16383 : Int32)) + (1 : Int32)) * (65536 : Int32)))), .val (.int (mm ||| (-2147483648 : Int32))), .val (.int (1 : Int32)), .unset, .unset, .unset] []))
  refine Goes.go (fun _ k => XS.iload X16.here hx rfl (hb hby at_127) rfl  k) ?_
  show Goes p e below s _ _ _ (T16.setTop (mkF m 129 #[.val (.int p0), .val (.int p1), .val (.int p2), .val (.ref b1), .val (.int mm), .val (.int (mm + (((p2 &&& (16383 : Int32)) + (1 : Int32)) * (65536 : Int32)))), .val (.int (mm ||| (-2147483648 : Int32))), .val (.int (1 : Int32)), .unset, .unset, .unset] [(.int mm)]))
  obtain ⟨_, _, ⟨T18, L18, k18, n18⟩, -, X18, ⟨Lc18, hQ18, l18, y18, z18⟩, st18⟩ := Jvm.LawKit.callS X16 hx (y := (⟨"com/example/brisk_sieve/brisksieve/text/RegexChars", "isPlain", "(I)Z"⟩ : MethodName)) hown (mvT hZ (hw _ (List.mem_of_getElem? (i := 4) rfl))) (mvT hZ (hw _ (List.mem_of_getElem? (i := 5) rfl))) (mvT hZ (hw _ (List.mem_of_getElem? (i := 6) rfl))) (mvT hZ (hw _ (List.mem_of_getElem? (i := 7) rfl))) (by decide) (backOf (W := 0) (rm1 l Z a0 hw [] mm h14 n0 Z14 ) hZ (hw _ (List.mem_of_getElem? (i := 7) rfl)) (hw _ (List.mem_of_getElem? (i := 6) rfl)) (by decide) (by decide)) (g := (mkF m 129 #[.val (.int p0), .val (.int p1), .val (.int p2), .val (.ref b1), .val (.int mm), .val (.int (mm + (((p2 &&& (16383 : Int32)) + (1 : Int32)) * (65536 : Int32)))), .val (.int (mm ||| (-2147483648 : Int32))), .val (.int (1 : Int32)), .unset, .unset, .unset] [(.int mm)])) rfl (by rw [hml]; rfl) (argsL := [(.int mm)]) (rest := []) (lenOf pd_0 rfl) rfl (by show 2 * 0 + _ ≤ _; exact Nat.le_of_eq rfl) (hb hby at_129) (fun _ _ => ⟨rfl, e16, (by decide : 1 + 0 ≤ _), (by decide : 13 + 0 ≤ _)⟩)
  dsimp only [Pt.U, Pt.locs, Pt.cells, Pt.slots] at X18 l18 y18 z18 st18 hQ18
  subst l18 y18 z18
  obtain ⟨rfl, N18q, e18⟩ := hQ18
  have N18 := Fr.app N16 N18q
  refine Goes.go st18 ?_
  show Goes p e below s _ _ _ (T18.setTop (mkF m 132 #[.val (.int p0), .val (.int p1), .val (.int p2), .val (.ref b1), .val (.int mm), .val (.int (mm + (((p2 &&& (16383 : Int32)) + (1 : Int32)) * (65536 : Int32)))), .val (.int (mm ||| (-2147483648 : Int32))), .val (.int (1 : Int32)), .unset, .unset, .unset] [(.int (f1 mm))]))
  have hc132_19 : (f1 mm) = (0 : Int32) := hM1.1
  refine Goes.go (fun _ k => XS.ifNo X18.here hx rfl (hb hby at_132) rfl ((if0 _ _).trans (teq hc132_19).2) k) ?_
  show Goes p e below s _ _ _ (T18.setTop (mkF m 135 #[.val (.int p0), .val (.int p1), .val (.int p2), .val (.ref b1), .val (.int mm), .val (.int (mm + (((p2 &&& (16383 : Int32)) + (1 : Int32)) * (65536 : Int32)))), .val (.int (mm ||| (-2147483648 : Int32))), .val (.int (1 : Int32)), .unset, .unset, .unset] []))
  refine Goes.go (fun _ k => XS.iconst X18.here hx rfl (hb hby at_135) k) ?_
  show Goes p e below s _ _ _ (T18.setTop (mkF m 136 #[.val (.int p0), .val (.int p1), .val (.int p2), .val (.ref b1), .val (.int mm), .val (.int (mm + (((p2 &&& (16383 : Int32)) + (1 : Int32)) * (65536 : Int32)))), .val (.int (mm ||| (-2147483648 : Int32))), .val (.int (1 : Int32)), .unset, .unset, .unset] [(.int (1 : Int32))]))
  refine Goes.go (fun _ k => XS.goto X18.here hx rfl (pc0 := 136) (pc' := 140) rfl (hb hby at_136) (by decide) (by decide) k) ?_
  show Goes p e below s _ _ _ (T18.setTop (mkF m 140 #[.val (.int p0), .val (.int p1), .val (.int p2), .val (.ref b1), .val (.int mm), .val (.int (mm + (((p2 &&& (16383 : Int32)) + (1 : Int32)) * (65536 : Int32)))), .val (.int (mm ||| (-2147483648 : Int32))), .val (.int (1 : Int32)), .unset, .unset, .unset] [(.int (1 : Int32))]))
  refine Goes.go (fun _ k => XS.istore X18.here hx rfl (hb hby at_140) rfl (l' := #[.val (.int p0), .val (.int p1), .val (.int p2), .val (.ref b1), .val (.int mm), .val (.int (mm + (((p2 &&& (16383 : Int32)) + (1 : Int32)) * (65536 : Int32)))), .val (.int (mm ||| (-2147483648 : Int32))), .val (.int (1 : Int32)), .val (.int (1 : Int32)), .unset, .unset]) rfl k) ?_
  show Goes p e below s _ _ _ (T18.setTop (mkF m 142 #[.val (.int p0), .val (.int p1), .val (.int p2), .val (.ref b1), .val (.int mm), .val (.int (mm + (((p2 &&& (16383 : Int32)) + (1 : Int32)) * (65536 : Int32)))), .val (.int (mm ||| (-2147483648 : Int32))), .val (.int (1 : Int32)), .val (.int (1 : Int32)), .unset, .unset] []))
  refine Goes.go (fun _ k => XS.iload X18.here hx rfl (hb hby at_142) rfl  k) ?_
  show Goes p e below s _ _ _ (T18.setTop (mkF m 144 #[.val (.int p0), .val (.int p1), .val (.int p2), .val (.ref b1), .val (.int mm), .val (.int (mm + (((p2 &&& (16383 : Int32)) + (1 : Int32)) * (65536 : Int32)))), .val (.int (mm ||| (-2147483648 : Int32))), .val (.int (1 : Int32)), .val (.int (1 : Int32)), .unset, .unset] [(.int (mm + (((p2 &&& (16383 : Int32)) + (1 : Int32)) * (65536 : Int32))))]))
  obtain ⟨_, _, ⟨T20, L20, k20, n20⟩, -, X20, ⟨Lc20, hQ20, l20, y20, z20⟩, st20⟩ := Jvm.LawKit.callS X18 hx (y := (⟨"com/example/brisk_sieve/brisksieve/text/RegexChars", "isPlain", "(I)Z"⟩ : MethodName)) hown (mvT hZ (hw _ (List.mem_of_getElem? (i := 4) rfl))) (mvT hZ (hw _ (List.mem_of_getElem? (i := 5) rfl))) (mvT hZ (hw _ (List.mem_of_getElem? (i := 6) rfl))) (mvT hZ (hw _ (List.mem_of_getElem? (i := 7) rfl))) (by decide) (backOf (W := 0) (rm1 l Z a0 hw [] (mm + (((p2 &&& (16383 : Int32)) + (1 : Int32)) * (65536 : Int32))) h14 n0 Z14 ) hZ (hw _ (List.mem_of_getElem? (i := 7) rfl)) (hw _ (List.mem_of_getElem? (i := 6) rfl)) (by decide) (by decide)) (g := (mkF m 144 #[.val (.int p0), .val (.int p1), .val (.int p2), .val (.ref b1), .val (.int mm), .val (.int (mm + (((p2 &&& (16383 : Int32)) + (1 : Int32)) * (65536 : Int32)))), .val (.int (mm ||| (-2147483648 : Int32))), .val (.int (1 : Int32)), .val (.int (1 : Int32)), .unset, .unset] [(.int (mm + (((p2 &&& (16383 : Int32)) + (1 : Int32)) * (65536 : Int32))))])) rfl (by rw [hml]; rfl) (argsL := [(.int (mm + (((p2 &&& (16383 : Int32)) + (1 : Int32)) * (65536 : Int32))))]) (rest := []) (lenOf pd_0 rfl) rfl (by show 2 * 0 + _ ≤ _; exact Nat.le_of_eq rfl) (hb hby at_144) (fun _ _ => ⟨rfl, e18, (by decide : 1 + 0 ≤ _), (by decide : 13 + 0 ≤ _)⟩)
  dsimp only [Pt.U, Pt.locs, Pt.cells, Pt.slots] at X20 l20 y20 z20 st20 hQ20
  subst l20 y20 z20
  obtain ⟨rfl, N20q, e20⟩ := hQ20
  have N20 := Fr.app N18 N20q
  refine Goes.go st20 ?_
  show Goes p e below s _ _ _ (T20.setTop (mkF m 147 #[.val (.int p0), .val (.int p1), .val (.int p2), .val (.ref b1), .val (.int mm), .val (.int (mm + (((p2 &&& (16383 : Int32)) + (1 : Int32)) * (65536 : Int32)))), .val (.int (mm ||| (-2147483648 : Int32))), .val (.int (1 : Int32)), .val (.int (1 : Int32)), .unset, .unset] [(.int (f1 (mm + (((p2 &&& (16383 : Int32)) + (1 : Int32)) * (65536 : Int32)))))]))
  refine Goes.go (fun _ k => XS.istore X20.here hx rfl (hb hby at_147) rfl (l' := #[.val (.int p0), .val (.int p1), .val (.int p2), .val (.ref b1), .val (.int mm), .val (.int (mm + (((p2 &&& (16383 : Int32)) + (1 : Int32)) * (65536 : Int32)))), .val (.int (mm ||| (-2147483648 : Int32))), .val (.int (1 : Int32)), .val (.int (1 : Int32)), .val (.int (f1 (mm + (((p2 &&& (16383 : Int32)) + (1 : Int32)) * (65536 : Int32))))), .unset]) rfl k) ?_
  show Goes p e below s _ _ _ (T20.setTop (mkF m 149 #[.val (.int p0), .val (.int p1), .val (.int p2), .val (.ref b1), .val (.int mm), .val (.int (mm + (((p2 &&& (16383 : Int32)) + (1 : Int32)) * (65536 : Int32)))), .val (.int (mm ||| (-2147483648 : Int32))), .val (.int (1 : Int32)), .val (.int (1 : Int32)), .val (.int (f1 (mm + (((p2 &&& (16383 : Int32)) + (1 : Int32)) * (65536 : Int32))))), .unset] []))
  refine Goes.go (fun _ k => XS.iload X20.here hx rfl (hb hby at_149) rfl  k) ?_
  show Goes p e below s _ _ _ (T20.setTop (mkF m 151 #[.val (.int p0), .val (.int p1), .val (.int p2), .val (.ref b1), .val (.int mm), .val (.int (mm + (((p2 &&& (16383 : Int32)) + (1 : Int32)) * (65536 : Int32)))), .val (.int (mm ||| (-2147483648 : Int32))), .val (.int (1 : Int32)), .val (.int (1 : Int32)), .val (.int (f1 (mm + (((p2 &&& (16383 : Int32)) + (1 : Int32)) * (65536 : Int32))))), .unset] [(.int (mm ||| (-2147483648 : Int32)))]))
  obtain ⟨_, _, ⟨T21, L21, k21, n21⟩, -, X21, ⟨Lc21, hQ21, l21, y21, z21⟩, st21⟩ := Jvm.LawKit.callS X20 hx (y := (⟨"com/example/brisk_sieve/brisksieve/text/RegexChars", "isPlain", "(I)Z"⟩ : MethodName)) hown (mvT hZ (hw _ (List.mem_of_getElem? (i := 4) rfl))) (mvT hZ (hw _ (List.mem_of_getElem? (i := 5) rfl))) (mvT hZ (hw _ (List.mem_of_getElem? (i := 6) rfl))) (mvT hZ (hw _ (List.mem_of_getElem? (i := 7) rfl))) (by decide) (backOf (W := 0) (rm1 l Z a0 hw [] (mm ||| (-2147483648 : Int32)) h14 n0 Z14 ) hZ (hw _ (List.mem_of_getElem? (i := 7) rfl)) (hw _ (List.mem_of_getElem? (i := 6) rfl)) (by decide) (by decide)) (g := (mkF m 151 #[.val (.int p0), .val (.int p1), .val (.int p2), .val (.ref b1), .val (.int mm), .val (.int (mm + (((p2 &&& (16383 : Int32)) + (1 : Int32)) * (65536 : Int32)))), .val (.int (mm ||| (-2147483648 : Int32))), .val (.int (1 : Int32)), .val (.int (1 : Int32)), .val (.int (f1 (mm + (((p2 &&& (16383 : Int32)) + (1 : Int32)) * (65536 : Int32))))), .unset] [(.int (mm ||| (-2147483648 : Int32)))])) rfl (by rw [hml]; rfl) (argsL := [(.int (mm ||| (-2147483648 : Int32)))]) (rest := []) (lenOf pd_0 rfl) rfl (by show 2 * 0 + _ ≤ _; exact Nat.le_of_eq rfl) (hb hby at_151) (fun _ _ => ⟨rfl, e20, (by decide : 1 + 0 ≤ _), (by decide : 13 + 0 ≤ _)⟩)
  dsimp only [Pt.U, Pt.locs, Pt.cells, Pt.slots] at X21 l21 y21 z21 st21 hQ21
  subst l21 y21 z21
  obtain ⟨rfl, N21q, e21⟩ := hQ21
  have N21 := Fr.app N20 N21q
  refine Goes.go st21 ?_
  show Goes p e below s _ _ _ (T21.setTop (mkF m 154 #[.val (.int p0), .val (.int p1), .val (.int p2), .val (.ref b1), .val (.int mm), .val (.int (mm + (((p2 &&& (16383 : Int32)) + (1 : Int32)) * (65536 : Int32)))), .val (.int (mm ||| (-2147483648 : Int32))), .val (.int (1 : Int32)), .val (.int (1 : Int32)), .val (.int (f1 (mm + (((p2 &&& (16383 : Int32)) + (1 : Int32)) * (65536 : Int32))))), .unset] [(.int (f1 (mm ||| (-2147483648 : Int32))))]))
  refine Goes.go (fun _ k => XS.istore X21.here hx rfl (hb hby at_154) rfl (l' := #[.val (.int p0), .val (.int p1), .val (.int p2), .val (.ref b1), .val (.int mm), .val (.int (mm + (((p2 &&& (16383 : Int32)) + (1 : Int32)) * (65536 : Int32)))), .val (.int (mm ||| (-2147483648 : Int32))), .val (.int (1 : Int32)), .val (.int (1 : Int32)), .val (.int (f1 (mm + (((p2 &&& (16383 : Int32)) + (1 : Int32)) * (65536 : Int32))))), .val (.int (f1 (mm ||| (-2147483648 : Int32))))]) rfl k) ?_
  show Goes p e below s _ _ _ (T21.setTop (mkF m 156 #[.val (.int p0), .val (.int p1), .val (.int p2), .val (.ref b1), .val (.int mm), .val (.int (mm + (((p2 &&& (16383 : Int32)) + (1 : Int32)) * (65536 : Int32)))), .val (.int (mm ||| (-2147483648 : Int32))), .val (.int (1 : Int32)), .val (.int (1 : Int32)), .val (.int (f1 (mm + (((p2 &&& (16383 : Int32)) + (1 : Int32)) * (65536 : Int32))))), .val (.int (f1 (mm ||| (-2147483648 : Int32))))] []))
  refine Goes.go (fun _ k => XS.iload X21.here hx rfl (hb hby at_156) rfl  k) ?_
  show Goes p e below s _ _ _ (T21.setTop (mkF m 158 #[.val (.int p0), .val (.int p1), .val (.int p2), .val (.ref b1), .val (.int mm), .val (.int (mm + (((p2 &&& (16383 : Int32)) + (1 : Int32)) * (65536 : Int32)))), .val (.int (mm ||| (-2147483648 : Int32))), .val (.int (1 : Int32)), .val (.int (1 : Int32)), .val (.int (f1 (mm + (((p2 &&& (16383 : Int32)) + (1 : Int32)) * (65536 : Int32))))), .val (.int (f1 (mm ||| (-2147483648 : Int32))))] [(.int (1 : Int32))]))
  have hc158_22 : ¬ ((1 : Int32) = (0 : Int32)) := (by decide)
  refine Goes.go (fun _ k => XS.ifNo X21.here hx rfl (hb hby at_158) rfl ((if0 _ _).trans (feq hc158_22).1) k) ?_
  show Goes p e below s _ _ _ (T21.setTop (mkF m 161 #[.val (.int p0), .val (.int p1), .val (.int p2), .val (.ref b1), .val (.int mm), .val (.int (mm + (((p2 &&& (16383 : Int32)) + (1 : Int32)) * (65536 : Int32)))), .val (.int (mm ||| (-2147483648 : Int32))), .val (.int (1 : Int32)), .val (.int (1 : Int32)), .val (.int (f1 (mm + (((p2 &&& (16383 : Int32)) + (1 : Int32)) * (65536 : Int32))))), .val (.int (f1 (mm ||| (-2147483648 : Int32))))] []))
  refine Goes.go (fun _ k => XS.iload X21.here hx rfl (hb hby at_161) rfl  k) ?_
  show Goes p e below s _ _ _ (T21.setTop (mkF m 163 #[.val (.int p0), .val (.int p1), .val (.int p2), .val (.ref b1), .val (.int mm), .val (.int (mm + (((p2 &&& (16383 : Int32)) + (1 : Int32)) * (65536 : Int32)))), .val (.int (mm ||| (-2147483648 : Int32))), .val (.int (1 : Int32)), .val (.int (1 : Int32)), .val (.int (f1 (mm + (((p2 &&& (16383 : Int32)) + (1 : Int32)) * (65536 : Int32))))), .val (.int (f1 (mm ||| (-2147483648 : Int32))))] [(.int (1 : Int32))]))
  have hc163_23 : ¬ ((1 : Int32) = (0 : Int32)) := (by decide)
  refine Goes.go (fun _ k => XS.ifNo X21.here hx rfl (hb hby at_163) rfl ((if0 _ _).trans (feq hc163_23).1) k) ?_
  show Goes p e below s _ _ _ (T21.setTop (mkF m 166 #[.val (.int p0), .val (.int p1), .val (.int p2), .val (.ref b1), .val (.int mm), .val (.int (mm + (((p2 &&& (16383 : Int32)) + (1 : Int32)) * (65536 : Int32)))), .val (.int (mm ||| (-2147483648 : Int32))), .val (.int (1 : Int32)), .val (.int (1 : Int32)), .val (.int (f1 (mm + (((p2 &&& (16383 : Int32)) + (1 : Int32)) * (65536 : Int32))))), .val (.int (f1 (mm ||| (-2147483648 : Int32))))] []))
  refine Goes.go (fun _ k => XS.iload X21.here hx rfl (hb hby at_166) rfl  k) ?_
  show Goes p e below s _ _ _ (T21.setTop (mkF m 168 #[.val (.int p0), .val (.int p1), .val (.int p2), .val (.ref b1), .val (.int mm), .val (.int (mm + (((p2 &&& (16383 : Int32)) + (1 : Int32)) * (65536 : Int32)))), .val (.int (mm ||| (-2147483648 : Int32))), .val (.int (1 : Int32)), .val (.int (1 : Int32)), .val (.int (f1 (mm + (((p2 &&& (16383 : Int32)) + (1 : Int32)) * (65536 : Int32))))), .val (.int (f1 (mm ||| (-2147483648 : Int32))))] [(.int (f1 (mm + (((p2 &&& (16383 : Int32)) + (1 : Int32)) * (65536 : Int32)))))]))
  have hc168_24 : ¬ ((f1 (mm + (((p2 &&& (16383 : Int32)) + (1 : Int32)) * (65536 : Int32)))) = (0 : Int32)) := by rw [own_above hM1.2.1 hM1.2.2.1]; decide
  refine Goes.go (fun _ k => XS.ifNo X21.here hx rfl (hb hby at_168) rfl ((if0 _ _).trans (feq hc168_24).1) k) ?_
  show Goes p e below s _ _ _ (T21.setTop (mkF m 171 #[.val (.int p0), .val (.int p1), .val (.int p2), .val (.ref b1), .val (.int mm), .val (.int (mm + (((p2 &&& (16383 : Int32)) + (1 : Int32)) * (65536 : Int32)))), .val (.int (mm ||| (-2147483648 : Int32))), .val (.int (1 : Int32)), .val (.int (1 : Int32)), .val (.int (f1 (mm + (((p2 &&& (16383 : Int32)) + (1 : Int32)) * (65536 : Int32))))), .val (.int (f1 (mm ||| (-2147483648 : Int32))))] []))
  refine Goes.go (fun _ k => XS.iload X21.here hx rfl (hb hby at_171) rfl  k) ?_
  show Goes p e below s _ _ _ (T21.setTop (mkF m 173 #[.val (.int p0), .val (.int p1), .val (.int p2), .val (.ref b1), .val (.int mm), .val (.int (mm + (((p2 &&& (16383 : Int32)) + (1 : Int32)) * (65536 : Int32)))), .val (.int (mm ||| (-2147483648 : Int32))), .val (.int (1 : Int32)), .val (.int (1 : Int32)), .val (.int (f1 (mm + (((p2 &&& (16383 : Int32)) + (1 : Int32)) * (65536 : Int32))))), .val (.int (f1 (mm ||| (-2147483648 : Int32))))] [(.int (f1 (mm ||| (-2147483648 : Int32))))]))
  have hc173_25 : ¬ ((f1 (mm ||| (-2147483648 : Int32))) = (0 : Int32)) := by rw [hM1.2.2.2]; decide
  refine Goes.go (fun _ k => XS.ifNo X21.here hx rfl (hb hby at_173) rfl ((if0 _ _).trans (feq hc173_25).1) k) ?_
  show Goes p e below s _ _ _ (T21.setTop (mkF m 176 #[.val (.int p0), .val (.int p1), .val (.int p2), .val (.ref b1), .val (.int mm), .val (.int (mm + (((p2 &&& (16383 : Int32)) + (1 : Int32)) * (65536 : Int32)))), .val (.int (mm ||| (-2147483648 : Int32))), .val (.int (1 : Int32)), .val (.int (1 : Int32)), .val (.int (f1 (mm + (((p2 &&& (16383 : Int32)) + (1 : Int32)) * (65536 : Int32))))), .val (.int (f1 (mm ||| (-2147483648 : Int32))))] []))
  refine Goes.go (fun _ k => XS.iconst X21.here hx rfl (hb hby at_176) k) ?_
  show Goes p e below s _ _ _ (T21.setTop (mkF m 177 #[.val (.int p0), .val (.int p1), .val (.int p2), .val (.ref b1), .val (.int mm), .val (.int (mm + (((p2 &&& (16383 : Int32)) + (1 : Int32)) * (65536 : Int32)))), .val (.int (mm ||| (-2147483648 : Int32))), .val (.int (1 : Int32)), .val (.int (1 : Int32)), .val (.int (f1 (mm + (((p2 &&& (16383 : Int32)) + (1 : Int32)) * (65536 : Int32))))), .val (.int (f1 (mm ||| (-2147483648 : Int32))))] [(.int (1 : Int32))]))
  refine Goes.go (fun _ k => XS.goto X21.here hx rfl (pc0 := 177) (pc' := 181) rfl (hb hby at_177) (by decide) (by decide) k) ?_
  show Goes p e below s _ _ _ (T21.setTop (mkF m 181 #[.val (.int p0), .val (.int p1), .val (.int p2), .val (.ref b1), .val (.int mm), .val (.int (mm + (((p2 &&& (16383 : Int32)) + (1 : Int32)) * (65536 : Int32)))), .val (.int (mm ||| (-2147483648 : Int32))), .val (.int (1 : Int32)), .val (.int (1 : Int32)), .val (.int (f1 (mm + (((p2 &&& (16383 : Int32)) + (1 : Int32)) * (65536 : Int32))))), .val (.int (f1 (mm ||| (-2147483648 : Int32))))] [(.int (1 : Int32))]))
  refine Goes.retN .boolean X21 hx hlk Bd.returns (by simp) (hb hby at_181) ?_ (by decide) (by decide)
  exact ⟨rfl, N21⟩
set_option maxRecDepth 65536 in
set_option maxHeartbeats 40000000 in
theorem comes_1 {Post : Tables → Env → Array Value → State → Outcome → State → Prop} (hpost : ∀ tb e args s v u, (limb_1_1.after args s (.returned v) u = true ∧ limb_1_2.after args s (.returned v) u = true ∧ True) → FrameEnd s (.returned v) u (Jvm.fieldLocs frame_1_writes args s ++ Jvm.arrayLocs frame_1_arrays args s ++ Jvm.staticLocs frame_1_statics s) 16 128 → Post tb e args s (.returned v) u) :
    ArmFor flags0 classFile x code maxLocals ret World_1 tables_1 room_1 Calls_1 rest_1 Pre_1 Post := by
  intro l hfl _ _ p e ha hc hk s m args below hf hA hF happ hP
  obtain ⟨hcalls, hrest, hpre⟩ := hP
  obtain ⟨-, -, -, hnamed, -, -, -, hat⟩ := (Spec.applies_iff hf).mp happ
  obtain ⟨hg, hn⟩ := and_e (Cond.before_iff.mp (show (Jvm.Cond.and given_1 narrow_1).before args s = true from hpre))
  obtain ⟨gc, gr0⟩ := and_e hg
  obtain ⟨w0, w1, w2, rfl⟩ : ∃ w0 w1 w2 : Value, args = #[w0, w1, w2] := by
    have hs : args.size = 3 := by simpa [Cond.value, given_1] using gc
    obtain ⟨L⟩ := args
    match L, hs with
    | [w0, w1, w2], _ => exact ⟨w0, w1, w2, rfl⟩
  have hw := fun d (hd : d ∈ tables_1) => atoms_spec (ws := Jvm.Cond.code x code maxLocals ret :: tables_1) hat d (List.mem_cons_of_mem _ hd)
  have hfit : Fit s := fun {y c} hc i hi => by
    obtain ⟨ha, rfl⟩ := Array.getElem?_eq_some_iff.mp hc
    have q := List.all_eq_true.mp ((Array.all_eq_true_iff_forall_mem.mp hF) _ (Array.getElem_mem ha)) i (List.mem_range.mpr hi)
    simpa [Array.getElem?_eq_getElem hi] using q
  obtain ⟨ga0, gr1⟩ := and_e gr0
  obtain ⟨i0, ei0⟩ := is_v ga0
  obtain rfl : w0 = (.int i0) := Option.some.inj ei0
  obtain ⟨ga1, gr2⟩ := and_e gr1
  obtain ⟨i1, ei1⟩ := is_v ga1
  obtain rfl : w1 = (.int i1) := Option.some.inj ei1
  obtain ⟨i2, ei2⟩ := is_v gr2
  obtain rfl : w2 = (.int i2) := Option.some.inj ei2
  obtain ⟨n, o, h1, h2, h3, _, L, rfl, ⟨rfl, N⟩, hq⟩ := rm0 l s _ hw tables_1 i0 i1 i2 s.heap s.heap.size (Nat.le_refl _) p e ha hc hk s m _ below hf ((Spec.applies_iff_loose hf).mp happ).1 ⟨rfl, State.Warmed39.refl s, rfl⟩ trivial
  refine ⟨n, _, h1, h2, h3, hpost _ _ _ _ _ _ ⟨Cond.after_iff.mpr rfl, Cond.after_iff.mpr (eq_i res_at (Term.int_eval (1)) rfl), trivial⟩ ⟨hq.1, hq.2.1, (hq.2.2.sift fun y hy => Or.inr (N y hy)).mono (by decide) (by decide)⟩⟩
theorem main_1_1 : Claimed_1_1 := comes_1 fun _ _ _ _ _ _ h hF => ⟨h.1, hF⟩
theorem main_1_2 : Claimed_1_2 := comes_1 fun _ _ _ _ _ _ h hF => ⟨h.2.1, hF⟩
end Jvm.Pilot.@@N@@
namespace Jvm.Pilot.@@N@@
open Jvm Jvm.ClassFile Sem Op Lib Jvm.Free Jvm.Stand Jvm.Pilot.@@N@@.Jvm.D
/-! MADE BY PROGRAM (witnessworld.py) out of the Statement's table words and the real class files: 11 classes; the members and pool entries that the words name. The judged class is class 1, her method 4. -/
namespace start1
open Jvm.ClassFile
def u (s : String) : CpInfo := .utf8 (stringToUtf16 s)
/-- a pool by its gaps: so many unusable entries, then the entry; so many at the end -/
def gap : Nat → List CpInfo → List CpInfo
  | 0, r => r
  | n + 1, r => .unusable :: gap n r
def poolList (es : List (Nat × CpInfo)) (last : Nat) : List CpInfo := es.foldr (fun e r => gap e.1 (e.2 :: r)) (gap last [])
def pool (es : List (Nat × CpInfo)) (last : Nat) : Array CpInfo := ⟨poolList es last⟩
def fileOf (pool : Array CpInfo) (this : Nat) (attrs : Array Attribute := #[]) (ms : Array MethodInfo := #[]) (fl : Nat := 33) (sup : Nat := 0) (ifs : Array Nat := #[]) (fds : Array FieldInfo := #[]) : ClassFile where
  minorVersion := 0
  majorVersion := 65
  constantPool := pool
  accessFlags := fl
  thisClass := this
  superClass := sup
  interfaces := ifs
  fields := fds
  methods := ms
  attributes := attrs
def plain (name : String) (sup : Option ClassId) : Class where
  name := name
  kind := .ordinary
  loader := none
  accessFlags := 33
  super := sup
  interfaces := #[]
  cf := none
  fields := #[]
  methods := #[]
  instanceTypes := #[]
  staticTypes := #[]
  resolved := #[]
  callSites := []
  init := .initialized
  statics := none
  mirror := none

def pool0 : Array CpInfo := pool [(5, u "<init>"), (0, u "()V"), (1, .class_ 10), (1, u "java/lang/Object")] 113

def k0m0 : Method := { name := "<init>", desc := "()V", sig := { parameters := [], returnType := none }, accessFlags := 1, code := none }
/-- java/lang/Object -/
def k0 : Class := { plain "java/lang/Object" none with
  accessFlags := 33
  interfaces := #[]
  cf := some (fileOf pool0 8 #[] #[{ accessFlags := 1, nameIndex := 5, descriptorIndex := 6, attributes := #[] }] 33 0 #[] #[])
  fields := #[]
  methods := #[k0m0]
  instanceTypes := #[]
  staticTypes := #[]
  resolved := Array.replicate 124 none
  statics := none }

def pool1 : Array CpInfo := pool [(2, .class_ 4), (1, u "java/lang/Object"), (0, u "<init>"), (0, u "()V"), (0, .methodref 8 9), (0, .class_ 10), (0, .nameAndType 11 12), (0, u "com/example/brisk_sieve/brisksieve/text/RegexCharsIsPlainPinLaw"), (0, u "isQuantifier"), (0, u "(I)Z"), (0, .methodref 8 14), (0, .nameAndType 15 12), (0, u "breaksRun"), (0, .integer 2147483647), (0, .integer 65536), (2, .integer 2147483648), (0, .methodref 22 23), (0, .class_ 24), (0, .nameAndType 25 12), (0, u "com/example/brisk_sieve/brisksieve/text/RegexChars"), (0, u "isPlain"), (0, .methodref 8 27), (0, .nameAndType 28 12), (0, u "reference"), (3, u "law"), (0, u "(III)Z")] 4

def k1m0 : Method := { name := "<init>", desc := "()V", sig := { parameters := [], returnType := none }, accessFlags := 2, code := none }
def k1c1 : Code := { maxStack := 2, maxLocals := 1, code := method_2_code, exceptionTable := #[], attributes := #[] }
def k1m1 : Method := { name := "isQuantifier", desc := "(I)Z", sig := { parameters := [.int], returnType := some .boolean }, accessFlags := 10, code := some k1c1 }
def k1c2 : Code := { maxStack := 2, maxLocals := 1, code := method_3_code, exceptionTable := #[], attributes := #[] }
def k1m2 : Method := { name := "breaksRun", desc := "(I)Z", sig := { parameters := [.int], returnType := some .boolean }, accessFlags := 10, code := some k1c2 }
def k1c3 : Code := { maxStack := 2, maxLocals := 1, code := method_4_code, exceptionTable := #[], attributes := #[] }
def k1m3 : Method := { name := "reference", desc := "(I)Z", sig := { parameters := [.int], returnType := some .boolean }, accessFlags := 10, code := some k1c3 }
def k1c4 : Code := { maxStack := 4, maxLocals := 11, code := code, exceptionTable := #[], attributes := #[] }
def k1m4 : Method := { name := "law", desc := "(III)Z", sig := { parameters := [.int, .int, .int], returnType := some .boolean }, accessFlags := 9, code := some k1c4 }
/-- com/example/brisk_sieve/brisksieve/text/RegexCharsIsPlainPinLaw -/
def k1 : Class := { plain "com/example/brisk_sieve/brisksieve/text/RegexCharsIsPlainPinLaw" (some 0) with
  accessFlags := 49
  interfaces := #[]
  cf := some (fileOf pool1 8 #[] #[{ accessFlags := 2, nameIndex := 5, descriptorIndex := 6, attributes := #[] }, { accessFlags := 10, nameIndex := 11, descriptorIndex := 12, attributes := #[] }, { accessFlags := 10, nameIndex := 15, descriptorIndex := 12, attributes := #[] }, { accessFlags := 10, nameIndex := 28, descriptorIndex := 12, attributes := #[] }, { accessFlags := 9, nameIndex := 32, descriptorIndex := 33, attributes := #[] }] 49 2 #[] #[])
  fields := #[]
  methods := #[k1m0, k1m1, k1m2, k1m3, k1m4]
  instanceTypes := #[]
  staticTypes := #[]
  resolved := Array.replicate 38 none
  statics := none }

def pool2 : Array CpInfo := pool [(2, .class_ 4), (1, u "java/lang/Object"), (0, u "<init>"), (0, u "()V"), (0, .class_ 8), (0, u "com/example/brisk_sieve/brisksieve/text/RegexChars"), (2, u "isPlain"), (0, u "(I)Z")] 3

def k2m0 : Method := { name := "<init>", desc := "()V", sig := { parameters := [], returnType := none }, accessFlags := 2, code := none }
def k2c1 : Code := { maxStack := 1, maxLocals := 2, code := prog_103_method_2_code, exceptionTable := #[], attributes := #[] }
def k2m1 : Method := { name := "isPlain", desc := "(I)Z", sig := { parameters := [.int], returnType := some .boolean }, accessFlags := 9, code := some k2c1 }
/-- com/example/brisk_sieve/brisksieve/text/RegexChars -/
def k2 : Class := { plain "com/example/brisk_sieve/brisksieve/text/RegexChars" (some 0) with
  accessFlags := 49
  interfaces := #[]
  cf := some (fileOf pool2 7 #[] #[{ accessFlags := 2, nameIndex := 5, descriptorIndex := 6, attributes := #[] }, { accessFlags := 9, nameIndex := 11, descriptorIndex := 12, attributes := #[] }] 49 2 #[] #[])
  fields := #[]
  methods := #[k2m0, k2m1]
  instanceTypes := #[]
  staticTypes := #[]
  resolved := Array.replicate 16 none
  statics := none }

def pool3 : Array CpInfo := pool [(1, u "java/lang/Cloneable"), (0, .class_ 1), (0, u "java/lang/Object"), (0, .class_ 3)] 3

/-- java/lang/Cloneable -/
def k3 : Class := { plain "java/lang/Cloneable" (some 0) with
  accessFlags := 1537
  interfaces := #[]
  cf := some (fileOf pool3 2 #[] #[] 1537 4 #[] #[])
  fields := #[]
  methods := #[]
  instanceTypes := #[]
  staticTypes := #[]
  resolved := Array.replicate 8 none
  statics := none }

def pool4 : Array CpInfo := pool [(1, u "java/io/Serializable"), (0, .class_ 1), (0, u "java/lang/Object"), (0, .class_ 3)] 3

/-- java/io/Serializable -/
def k4 : Class := { plain "java/io/Serializable" (some 0) with
  accessFlags := 1537
  interfaces := #[]
  cf := some (fileOf pool4 2 #[] #[] 1537 4 #[] #[])
  fields := #[]
  methods := #[]
  instanceTypes := #[]
  staticTypes := #[]
  resolved := Array.replicate 8 none
  statics := none }

/-- the primitive byte -/
def k5 : Class := { plain "byte" none with kind := .primitive 'B', accessFlags := 0x411 }
/-- [B -/
def k6 : Class := { plain "[B" (some 0) with kind := .array 5 .byte, interfaces := #[3, 4], accessFlags := 1041 }

/-- the primitive char -/
def k7 : Class := { plain "char" none with kind := .primitive 'C', accessFlags := 0x411 }
/-- [C -/
def k8 : Class := { plain "[C" (some 0) with kind := .array 7 .char, interfaces := #[3, 4], accessFlags := 1041 }

/-- the primitive int -/
def k9 : Class := { plain "int" none with kind := .primitive 'I', accessFlags := 0x411 }
/-- [I -/
def k10 : Class := { plain "[I" (some 0) with kind := .array 9 .int, interfaces := #[3, 4], accessFlags := 1041 }

def heap : Heap := #[]
def classes : Array Class := #[k0, k1, k2, k3, k4, k5, k6, k7, k8, k9, k10]
def interned : List (Array UInt16 × Addr) := []
def slotsUsed : Nat := 0
def theMethod : MethodId := ⟨1, 4⟩
def args0 : Array Value := #[.int 5, .int 5, .int 5]
def aboutOver (below : List Frame) : State where
  vm := { classes := classes, interned := interned.toArray }
  heap := heap
  slotsUsed := slotsUsed
  threads := #[{ frames := .invoking theMethod args0 :: below }]
def below0 : List Frame := [.native { method := ⟨0, 0⟩, args := #[] }]
def about1 : State := aboutOver below0
def p0 : Program := .bare "" "" ""
def e0 : Env := launch0.env 0 0 0
theorem w_frames : about1.frames = Frame.invoking theMethod args0 :: below0 := rfl
set_option maxRecDepth 65536 in
theorem w_args : argsFit about1.vm theMethod args0 = true := by decide +kernel
set_option maxRecDepth 65536 in
theorem w_heap : heapFits about1 = true := by decide +kernel
set_option maxRecDepth 65536 in
theorem w_runnable : about1.curStatus? = some .runnable := by decide +kernel
set_option maxRecDepth 65536 in
theorem w_alone : about1.alone = true := by decide +kernel
set_option maxRecDepth 65536 in
theorem w_named : about1.methodNamed? x = some theMethod := by decide +kernel
set_option maxRecDepth 65536 in
theorem w_hears : about1.hears theMethod below0 = true := by decide +kernel
set_option maxRecDepth 65536 in
theorem w_ripe : about1.ripe theMethod args0 below0 = true := by decide +kernel
theorem w_running : about1.status = .running := rfl
set_option maxRecDepth 65536 in
theorem w_room : about1.hasRoom e0.platform room_1 = true :=
  launch0.hasRoom_least _ room_1 (by decide +kernel) (by decide +kernel) (by decide +kernel) (by decide +kernel) (by decide +kernel) (by decide +kernel)
theorem allAtoms_all (ts : List Jvm.Cond) (a : Array Jvm.Value) (st : Jvm.State) : (allAtoms ts).before a st = ts.all (fun c => c.before a st) := by
  induction ts with
  | nil => rfl
  | cons c t ih =>
    show (Jvm.Cond.and c (allAtoms t)).before a st = _
    rw [Jvm.Cond.before_and, ih, List.all_cons]
def words1 : List Jvm.Cond := Jvm.Cond.code x code maxLocals ret :: tables_1
/-- a 'code' word, met by the world's own term for the bytes: nothing is compared byte by byte -/
theorem code_word {y : MethodName} {bytes : ByteArray} {mx : Nat} {rt : Option FieldType} {a : Array Value} {s : State} {m : MethodId} {meth : Method} {c : Code} (h1 : s.methodNamed? y = some m) (h2 : s.vm.method? m = some meth) (h3 : meth.code = some c) (h4 : c.code = bytes)
    (h5 : (c.maxLocals == mx && c.exceptionTable.isEmpty && decide (c.maxStack ≤ mostOperands) && decide (meth.sig.returnType = rt) && !meth.locks && decide (parseMethodDescriptor y.desc = some meth.sig)) = true) : (Jvm.Cond.code y bytes mx rt).before a s = true := by
  simp only [Bool.and_eq_true, beq_iff_eq, Bool.not_eq_true', decide_eq_true_eq] at h5
  obtain ⟨⟨⟨⟨⟨g1, g2⟩, g3⟩, g4⟩, g5⟩, g6⟩ := h5
  simp [Cond.before, Cond.holds, Cond.value, h1, h2, h3, h4, g1, g2, g3, g4, g5, g6]
def isCode : Jvm.Cond → Bool
  | .code _ _ _ _ => true
  | _ => false
theorem all_split {L : List Jvm.Cond} {P : Jvm.Cond → Bool} (h1 : L.all (fun c => isCode c || P c) = true) (h2 : ∀ c ∈ L.filter isCode, P c = true) : L.all P = true := by
  refine List.all_eq_true.mpr fun c hc => ?_
  have h := List.all_eq_true.mp h1 c hc
  rcases Bool.eq_false_or_eq_true (isCode c) with hi | hi
  · exact h2 c (List.mem_filter.mpr ⟨hc, hi⟩)
  · simpa [hi] using h
set_option maxRecDepth 65536 in
theorem w_c0 : (Jvm.Cond.code x code maxLocals ret).before args0 about1 = true := code_word (m := ⟨1, 4⟩) (meth := k1m4) (c := k1c4) (by decide +kernel) rfl rfl rfl (by decide +kernel)
set_option maxRecDepth 65536 in
theorem w_c1 : (Jvm.Cond.code ({ cls := "com/example/brisk_sieve/brisksieve/text/RegexChars", name := "isPlain", desc := "(I)Z" } : Jvm.MethodName) prog_103_method_2_code (2 : Nat) (Option.some Jvm.ClassFile.FieldType.boolean)).before args0 about1 = true := code_word (m := ⟨2, 1⟩) (meth := k2m1) (c := k2c1) (by decide +kernel) rfl rfl rfl (by decide +kernel)
set_option maxRecDepth 65536 in
theorem w_c2 : (Jvm.Cond.code ({ cls := "com/example/brisk_sieve/brisksieve/text/RegexCharsIsPlainPinLaw", name := "reference", desc := "(I)Z" } : Jvm.MethodName) method_4_code (1 : Nat) (Option.some Jvm.ClassFile.FieldType.boolean)).before args0 about1 = true := code_word (m := ⟨1, 3⟩) (meth := k1m3) (c := k1c3) (by decide +kernel) rfl rfl rfl (by decide +kernel)
set_option maxRecDepth 65536 in
theorem w_c3 : (Jvm.Cond.code ({ cls := "com/example/brisk_sieve/brisksieve/text/RegexCharsIsPlainPinLaw", name := "isQuantifier", desc := "(I)Z" } : Jvm.MethodName) method_2_code (1 : Nat) (Option.some Jvm.ClassFile.FieldType.boolean)).before args0 about1 = true := code_word (m := ⟨1, 1⟩) (meth := k1m1) (c := k1c1) (by decide +kernel) rfl rfl rfl (by decide +kernel)
set_option maxRecDepth 65536 in
theorem w_c4 : (Jvm.Cond.code ({ cls := "com/example/brisk_sieve/brisksieve/text/RegexCharsIsPlainPinLaw", name := "breaksRun", desc := "(I)Z" } : Jvm.MethodName) method_3_code (1 : Nat) (Option.some Jvm.ClassFile.FieldType.boolean)).before args0 about1 = true := code_word (m := ⟨1, 2⟩) (meth := k1m2) (c := k1c2) (by decide +kernel) rfl rfl rfl (by decide +kernel)
def codes1 : List Jvm.Cond := [Jvm.Cond.code x code maxLocals ret, Jvm.Cond.code ({ cls := "com/example/brisk_sieve/brisksieve/text/RegexChars", name := "isPlain", desc := "(I)Z" } : Jvm.MethodName) prog_103_method_2_code (2 : Nat) (Option.some Jvm.ClassFile.FieldType.boolean), Jvm.Cond.code ({ cls := "com/example/brisk_sieve/brisksieve/text/RegexCharsIsPlainPinLaw", name := "reference", desc := "(I)Z" } : Jvm.MethodName) method_4_code (1 : Nat) (Option.some Jvm.ClassFile.FieldType.boolean), Jvm.Cond.code ({ cls := "com/example/brisk_sieve/brisksieve/text/RegexCharsIsPlainPinLaw", name := "isQuantifier", desc := "(I)Z" } : Jvm.MethodName) method_2_code (1 : Nat) (Option.some Jvm.ClassFile.FieldType.boolean), Jvm.Cond.code ({ cls := "com/example/brisk_sieve/brisksieve/text/RegexCharsIsPlainPinLaw", name := "breaksRun", desc := "(I)Z" } : Jvm.MethodName) method_3_code (1 : Nat) (Option.some Jvm.ClassFile.FieldType.boolean)]
set_option maxRecDepth 65536 in
theorem codes_eq : words1.filter isCode = codes1 := rfl
theorem w_codes : ∀ c ∈ words1.filter isCode, c.before args0 about1 = true := by
  rw [codes_eq]
  intro c hc
  simp only [codes1, List.mem_cons, List.not_mem_nil, or_false] at hc
  rcases hc with rfl | rfl | rfl | rfl | rfl
  · exact w_c0
  · exact w_c1
  · exact w_c2
  · exact w_c3
  · exact w_c4
set_option maxRecDepth 65536 in
theorem w_t1 : words1.all (fun c => isCode c || c.before args0 about1) = true := by decide +kernel
theorem w_tables : (allAtoms (Jvm.Cond.code x code maxLocals ret :: tables_1)).before args0 about1 = true := by
  rw [allAtoms_all]
  show words1.all (fun c => c.before args0 about1) = true
  refine all_split ?_ w_codes
  rw [w_t1]
set_option maxRecDepth 65536 in
theorem w_case : (Jvm.Cond.and given_1 narrow_1).before args0 about1 = true := by decide +kernel
theorem w_applies : (headSpec (Jvm.Cond.code x code maxLocals ret :: tables_1) room_1).applies x e0.platform about1 = true :=
  (Spec.applies_iff w_frames).mpr ⟨w_running, w_runnable, w_alone, w_named, w_hears, w_ripe, w_room, w_tables⟩
theorem atStart : AtStart classFile x code maxLocals ret World_1 tables_1 room_1 Calls_1 rest_1 Pre_1 launch0 p0 e0 about1 theMethod args0 below0 :=
  ⟨lists_1, trivial, launch0.admits_env _ _ _, launch0.least_env, fairChoices_fair.cas, fairChoices_fair.clock, w_frames, w_args, w_heap, w_applies, trivial, trivial, w_case⟩
end start1
theorem witness_1 : WitnessClaimed_1 := ⟨start1.p0, start1.e0, start1.about1, start1.theMethod, start1.args0, start1.below0, start1.atStart⟩
end Jvm.Pilot.@@N@@
