import JvmDerived
import JvmDerived.Pilot.@@N@@Statement
import JvmDerived.Pilot.@@N@@Code
set_option linter.unusedVariables false
set_option linter.unusedSimpArgs false
@@BLOCK:NumsL.lean.txt@@
namespace Jvm.RoadKit
open Sem ClassFile Op Lib Jvm.Stand Jvm.Free Jvm.LawKit
section Goes
variable {p : Program} {l : Launch} {e : Env} {R : Room} {s : State} {m : MethodId} {args : Array Value} {below : List Frame} {meth : Method} {c : Code} {T : State} {locs : List Loc} {cells slots : Nat}
/-- from here the run comes to its return, and Q holds there -/
def Goes (p : Program) (e : Env) (below : List Frame) (s : State) (Q : Option Value → Heap → List Loc → Prop) (kc ks : Nat) (S : State) : Prop :=
  ∃ s₂ o, Steps p.tables e below S s₂ ∧ s₂.status = .running ∧ Ended s₂ below o ∧ ∃ v L, o = .returned v ∧ Q v s₂.heap L ∧ FrameEnd s o s₂ L kc ks
variable {Q Q' : Option Value → Heap → List Loc → Prop} {kc ks : Nat} {A B : State}
theorem Goes.go (h : ∀ t, Steps p.tables e below A t → Steps p.tables e below B t) (g : Goes p e below s Q kc ks A) : Goes p e below s Q kc ks B := by
  obtain ⟨s2, o, h1, h2⟩ := g
  exact ⟨s2, o, h _ h1, h2⟩
theorem Goes.tr (h : Steps p.tables e below B A) (g : Goes p e below s Q kc ks A) : Goes p e below s Q kc ks B := g.go fun _ k => h.trans k
theorem Goes.weaken (h : ∀ v hp L, Q' v hp L → Q v hp L) (g : Goes p e below s Q' kc ks A) : Goes p e below s Q kc ks A := by
  obtain ⟨s2, o, h1, h2, h3, v, L, h4, h5, h6⟩ := g
  exact ⟨s2, o, h1, h2, h3, v, L, h4, h _ _ _ h5, h6⟩
theorem Goes.castQ (h : Q = Q') (g : Goes p e below s Q' kc ks A) : Goes p e below s Q kc ks A := h ▸ g
theorem Goes.out (X : Stand p l e R s m args below meth c T locs cells slots) (hlk : meth.locks = false) {v : Option Value} (hv : meth.sig.returnType = none → v = none) {F : State}
    (hstep : ∀ fs, (∀ (f : JFrame) (acts : List Action), f.method = m → f.locked = none → f.entered = [] → (doReturn e (T.setTop f) acts v).1 = T.setFrames fs) → Steps p.tables e below F (T.setFrames fs))
    (hq : Q v T.heap locs) (hc : cells ≤ kc) (hs : slots ≤ ks) : Goes p e below s Q kc ks F := by
  obtain ⟨fs, hr, hrun, hended, hW, hsame⟩ := X.leave (v := v) hv hlk
  exact ⟨_, _, hstep fs hr, hrun, hended, _, _, rfl, hq, ⟨_, rfl⟩, hW, hsame.mono hc hs⟩
theorem retI (X : Stand p l e R s m args below meth c T locs cells slots) (hx : p.tables.exec = Jvm.exec) {pc : Nat} {Ls : Array Slot} {z : Int32} {rest : List Value} (hret : meth.sig.returnType = some .int) (hd : decode c.code pc = .ok (.ireturn, 1)) {fs : List Frame}
    (hl : ∀ (f : JFrame) (acts : List Action), f.method = m → f.locked = none → f.entered = [] → (doReturn e (T.setTop f) acts (some (.int z))).1 = T.setFrames fs) : Steps p.tables e below (T.setTop (mkF m pc Ls (.int z :: rest))) (T.setFrames fs) := by
  have hm' : T.vm.method? m = some meth := X.method'
  have hn : narrow .int (.int z) = .int z := rfl
  show Steps p.tables e below (T.setTop { method := m, pc := pc, locals := Ls, stack := _ :: rest, locked := none }) _
  jvm_step X.here [X.here.top, hx, hd, hm', hret, hn]
  first | (intro acts; rw [hl _ acts rfl rfl rfl]) | rw [hl _ _ rfl rfl rfl]
  exact Steps.refl _
theorem Goes.retI (X : Stand p l e R s m args below meth c T locs cells slots) (hx : p.tables.exec = Jvm.exec) (hlk : meth.locks = false) (hret : meth.sig.returnType = some .int) {pc : Nat} {Ls : Array Slot} {z : Int32} {rest : List Value} (hd : decode c.code pc = .ok (.ireturn, 1))
    (hq : Q (some (.int z)) T.heap locs) (hc : cells ≤ kc) (hs : slots ≤ ks) : Goes p e below s Q kc ks (T.setTop (mkF m pc Ls (.int z :: rest))) :=
  Goes.out X hlk (fun h => by rw [hret] at h; cases h) (fun fs hr => Jvm.RoadKit.retI X hx hret hd hr) hq hc hs
theorem Goes.retN (t : FieldType) (X : Stand p l e R s m args below meth c T locs cells slots) (hx : p.tables.exec = Jvm.exec) (hlk : meth.locks = false) (hret : meth.sig.returnType = some t) (ht : t = .boolean ∨ t = .byte ∨ t = .char ∨ t = .short) {pc : Nat} {Ls : Array Slot} {z : Int32} {rest : List Value} (hd : decode c.code pc = .ok (.ireturn, 1))
    (hq : Q (some (.int (nar t z))) T.heap locs) (hc : cells ≤ kc) (hs : slots ≤ ks) : Goes p e below s Q kc ks (T.setTop (mkF m pc Ls (.int z :: rest))) :=
  Goes.out X hlk (fun h => by rw [hret] at h; cases h) (fun fs hr => Jvm.RoadKit.retN X hx hret ht hd hr) hq hc hs
theorem Goes.ret0 (X : Stand p l e R s m args below meth c T locs cells slots) (hx : p.tables.exec = Jvm.exec) (hlk : meth.locks = false) (hret : meth.sig.returnType = none) {pc : Nat} {Ls : Array Slot} (hd : decode c.code pc = .ok (.return_, 1))
    (hq : Q none T.heap locs) (hc : cells ≤ kc) (hs : slots ≤ ks) : Goes p e below s Q kc ks (T.setTop (mkF m pc Ls [])) :=
  Goes.out X hlk (fun _ => rfl) (fun fs hr => X.returnOut hx hret hd hr) hq hc hs
theorem Goes.retJ (X : Stand p l e R s m args below meth c T locs cells slots) (hx : p.tables.exec = Jvm.exec) (hlk : meth.locks = false) (hret : meth.sig.returnType = some .long) {pc : Nat} {Ls : Array Slot} {z : Int64} (hd : decode c.code pc = .ok (.lreturn, 1))
    (hq : Q (some (.long z)) T.heap locs) (hc : cells ≤ kc) (hs : slots ≤ ks) : Goes p e below s Q kc ks (T.setTop (mkF m pc Ls [.long z])) :=
  Goes.out X hlk (fun h => by rw [hret] at h; cases h) (fun fs hr => X.lreturnOut hx hret hd hr) hq hc hs
theorem Goes.retA (X : Stand p l e R s m args below meth c T locs cells slots) (hx : p.tables.exec = Jvm.exec) (hlk : meth.locks = false) {w : Value} (hw : w.isRef = true) {t : FieldType} (hret : meth.sig.returnType = some t) (ht : t.isReference = true) {pc : Nat} {Ls : Array Slot} (hd : decode c.code pc = .ok (.areturn, 1))
    (hq : Q (some w) T.heap locs) (hc : cells ≤ kc) (hs : slots ≤ ks) : Goes p e below s Q kc ks (T.setTop (mkF m pc Ls [w])) :=
  Goes.out X hlk (fun h => by rw [hret] at h; cases h) (fun fs hr => X.areturnOut hx hw hret ht hd hr) hq hc hs
/-- the answer of a method that writes nothing -/
def Qp (z : Value) (h0 : Heap) (n0 : Nat) (v : Option Value) (h : Heap) (L : List Loc) : Prop := v = some z ∧ Fr n0 L ∧ h = h0
/-- the answer of a method that writes nothing and returns nothing -/
def Qn (h0 : Heap) (n0 : Nat) (v : Option Value) (h : Heap) (L : List Loc) : Prop := v = none ∧ Fr n0 L ∧ h = h0
theorem Goes.qi {z z' : Int32} {h0 : Heap} {n0 : Nat} (h : z = z') (g : Goes p e below s (Qp (.int z') h0 n0) kc ks A) : Goes p e below s (Qp (.int z) h0 n0) kc ks A := h ▸ g
theorem Goes.qj {z z' : Int64} {h0 : Heap} {n0 : Nat} (h : z = z') (g : Goes p e below s (Qp (.long z') h0 n0) kc ks A) : Goes p e below s (Qp (.long z) h0 n0) kc ks A := h ▸ g
end Goes
end Jvm.RoadKit
namespace Jvm.RoadKit
open Sem ClassFile Op Lib Jvm.Stand Jvm.Free Jvm.LawKit
/-- an array of ints (bytes, chars, booleans): its length and what each place holds -/
def IA (Z : State) (h : Heap) (a : Addr) (ty : FieldType) (n : Nat) (f : Nat → Int32) : Prop :=
  ∃ c : Cell, Arr Z h a c ty ∧ c.slots.size = n ∧ n < 2 ^ 31 ∧ ∀ i, i < n → c.slots[i]? = some (.int (f i)) ∧ fits ty (.int (f i)) = true
def own_upd (f : Nat → Int32) (i : Nat) (v : Int32) : Nat → Int32 := fun k => if k = i then v else f k
section IAs
variable {p : Program} {l : Launch} {e : Env} {R : Room} {s : State} {m : MethodId} {args : Array Value} {below : List Frame} {meth : Method} {c : Code} {T : State} {locs : List Loc} {cells slots : Nat} {Z : State} {a0 : Array Value} {h h' : Heap} {a b : Addr} {ty : FieldType} {n : Nat} {f f' : Nat → Int32} {sl : Nat} {v : Value} {ws : List Addr}
theorem IA.lt (F : IA Z h a ty n f) : a < h.size := by obtain ⟨c, A, -⟩ := F; exact A.lt
theorem IA.ext (F : IA Z h a ty n f) (E : Ext h h') : IA Z h' a ty n f := by obtain ⟨c, A, r⟩ := F; exact ⟨c, A.ext E, r⟩
theorem IA.other (F : IA Z h b ty n f) (W : Wr h h' a sl v) (q : b ≠ a) : IA Z h' b ty n f := by obtain ⟨c, A, r⟩ := F; exact ⟨c, A.other W q, r⟩
theorem IA.keep (F : IA Z h a ty n f) (K : Keep h h' ws) (q : a ∉ ws) : IA Z h' a ty n f := by obtain ⟨c, A, r⟩ := F; exact ⟨c, ⟨K.2.1 a c A.1 q, A.2⟩, r⟩
theorem IA.as (F : IA Z h a ty n f) (q : ∀ i, i < n → f i = f' i) : IA Z h a ty n f' := by
  obtain ⟨c, A, S, M, H⟩ := F
  exact ⟨c, A, S, M, fun i hi => by rw [← q i hi]; exact H i hi⟩
theorem IA.bound (F : IA Z h a ty n f) : n < 2 ^ 31 := by obtain ⟨c, A, S, M, H⟩ := F; exact M
theorem own_nat {i : Nat} (hi : i < 2 ^ 31) : (Int32.ofNat i).toInt = i := Int32.toInt_ofNat_of_lt (by omega)
theorem own_cl {i : Nat} (hi : i < 2 ^ 31) : (Int32.ofNat i).toNatClampNeg = i := by
  have := own_nat hi
  show (Int32.ofNat i).toInt.toNat = i
  omega
theorem own_in {i : Nat} (hi : i < n) (hn : n < 2 ^ 31) : ¬ (Int32.ofNat i < 0 ∨ n ≤ (Int32.ofNat i).toNatClampNeg) := by
  rw [own_cl (by omega)]
  rintro (q | q)
  · have := Int32.lt_iff_toInt_lt.mp q
    rw [own_nat (by omega)] at this
    have z : (0 : Int32).toInt = 0 := rfl
    omega
  · omega
theorem IA.set {c : Cell} (A : Arr Z h a c ty) (S : c.slots.size = n) (M : n < 2 ^ 31) (H : ∀ i, i < n → c.slots[i]? = some (.int (f i)) ∧ fits ty (.int (f i)) = true) {i : Nat} (hi : i < n) {x : Int32} (hx : fits ty (.int x) = true) (W : Wr h h' a i (.int x)) : IA Z h' a ty n (own_upd f i x) := by
  refine ⟨c.setSlot i (.int x), A.same W, by rw [sz_set]; exact S, M, fun k hk => ?_⟩
  by_cases q : k = i
  · subst q
    simp only [own_upd, if_pos]
    exact ⟨by simp [Cell.setSlot, S, hk], hx⟩
  · simp only [own_upd, if_neg q]
    refine ⟨?_, (H k hk).2⟩
    rw [← (H k hk).1]
    simp only [Cell.setSlot]
    exact Array.getElem?_setIfInBounds_ne (Ne.symm q)
theorem own_newA (X : Stand p l e R s m args below meth c T locs cells slots) (hx : p.tables.exec = Jvm.exec) (hZ : Z.Warmed39 s.vm) {aty : ArrayType} (w : (Cond.arrayClass (newarray.typeOf aty)).before a0 Z = true) (eT : T.heap = h) {g : JFrame} (hg : g.method = m) (hd : decode c.code g.pc = .ok (.newarray aty, 2)) {z : Int32} {rest : List Value} (hs : g.stack = .int z :: rest)
    {n : Nat} (hz : z = Int32.ofNat n) {cap : Nat} (hcap : n ≤ cap) (hb : cap * 8 ≤ 536870912) (hc : cells + 1 ≤ R.cells) (hl : slots + cap ≤ R.slots) (hdv : defaultValue (newarray.typeOf aty) = .int 0) (hft : fits (newarray.typeOf aty) (.int 0) = true) {ad : String} (had : "[" ++ (newarray.typeOf aty).toString = ad) :
    ∃ T' h', Stand p l e R s m args below meth c T' locs (cells + 1) (slots + cap) ∧ T'.heap = h' ∧ Ext h h' ∧ IA Z h' h.size (newarray.typeOf aty) n (fun _ => 0) ∧ Exa Z h' h.size ad ∧
      ∀ target, Steps p.tables e below (T'.setTop { g with pc := g.pc + 2, stack := .ref h.size :: rest }) target → Steps p.tables e below (T.setTop g) target := by
  have hn31 : n < 2 ^ 31 := by omega
  have hcl : z.toNatClampNeg = n := by rw [hz]; exact own_cl hn31
  have hneg : ¬ z < 0 := by
    rw [hz]; intro q
    have := Int32.lt_iff_toInt_lt.mp q
    rw [own_nat hn31] at this
    have z : (0 : Int32).toInt = 0 := rfl
    omega
  obtain ⟨T', h', cA, X', e', E, A, EX, st⟩ := newPE X hx hZ w eT hg hd hs hneg (cap := cap) (by rw [hcl]; exact hcap) hb hc hl had
  refine ⟨T', h', X', e', E, ⟨_, A, by rw [sz_new]; exact hcl, hn31, fun i hi => ⟨?_, hft⟩⟩, EX, st⟩
  have := get_new (cA := cA) (ty := newarray.typeOf aty) (n := z) (k := Int32.ofNat i) (by rw [hcl]; exact own_in hi hn31)
  rw [own_cl (by omega), hdv] at this
  exact this
theorem own_stI (X : Stand p l e R s m args below meth c T locs cells slots) (hx : p.tables.exec = Jvm.exec) (hZ : Z.Warmed39 s.vm) (eT : T.heap = h) (A : IA Z h a .int n f) {j x : Int32} {i : Nat} (hj : j = Int32.ofNat i) (hi : i < n) {g : JFrame} (hg : g.method = m) {rest : List Value} (hs : g.stack = .int x :: .int j :: .ref a :: rest) (hd : decode c.code g.pc = .ok (.iastore, 1)) :
    ∃ T' h', Stand p l e R s m args below meth c T' (locs ++ [⟨a, i⟩]) cells slots ∧ T'.heap = h' ∧ Wr h h' a i (.int x) ∧ IA Z h' a .int n (own_upd f i x) ∧ ∀ target, Steps p.tables e below (T'.setTop { g with pc := g.pc + 1, stack := rest }) target → Steps p.tables e below (T.setTop g) target := by
  obtain ⟨cl, A, S, M, H⟩ := A
  subst hj
  obtain ⟨T', h', X', e', W, st⟩ := stI X hx hZ eT A (j := Int32.ofNat i) (by rw [S]; exact own_in hi M) hg hs hd
  rw [own_cl (by omega)] at X' W
  exact ⟨T', h', X', e', W, IA.set A S M H hi rfl W, st⟩
theorem own_stB (X : Stand p l e R s m args below meth c T locs cells slots) (hx : p.tables.exec = Jvm.exec) (hZ : Z.Warmed39 s.vm) (eT : T.heap = h) (A : IA Z h a .byte n f) {j x : Int32} {i : Nat} (hj : j = Int32.ofNat i) (hi : i < n) {g : JFrame} (hg : g.method = m) {rest : List Value} (hs : g.stack = .int x :: .int j :: .ref a :: rest) (hd : decode c.code g.pc = .ok (.bastore, 1)) :
    ∃ T' h', Stand p l e R s m args below meth c T' (locs ++ [⟨a, i⟩]) cells slots ∧ T'.heap = h' ∧ Wr h h' a i (.int (nar .byte x)) ∧ IA Z h' a .byte n (own_upd f i (nar .byte x)) ∧ ∀ target, Steps p.tables e below (T'.setTop { g with pc := g.pc + 1, stack := rest }) target → Steps p.tables e below (T.setTop g) target := by
  obtain ⟨cl, A, S, M, H⟩ := A
  subst hj
  obtain ⟨T', h', X', e', W, st⟩ := stB X hx hZ eT A (j := Int32.ofNat i) (by rw [S]; exact own_in hi M) hg hs hd
  rw [own_cl (by omega)] at X' W
  exact ⟨T', h', X', e', W, IA.set A S M H hi (fits_nar_byte _) W, st⟩
theorem own_stC (X : Stand p l e R s m args below meth c T locs cells slots) (hx : p.tables.exec = Jvm.exec) (hZ : Z.Warmed39 s.vm) (eT : T.heap = h) (A : IA Z h a .char n f) {j x : Int32} {i : Nat} (hj : j = Int32.ofNat i) (hi : i < n) {g : JFrame} (hg : g.method = m) {rest : List Value} (hs : g.stack = .int x :: .int j :: .ref a :: rest) (hd : decode c.code g.pc = .ok (.castore, 1)) :
    ∃ T' h', Stand p l e R s m args below meth c T' (locs ++ [⟨a, i⟩]) cells slots ∧ T'.heap = h' ∧ Wr h h' a i (.int (nar .char x)) ∧ IA Z h' a .char n (own_upd f i (nar .char x)) ∧ ∀ target, Steps p.tables e below (T'.setTop { g with pc := g.pc + 1, stack := rest }) target → Steps p.tables e below (T.setTop g) target := by
  obtain ⟨cl, A, S, M, H⟩ := A
  subst hj
  obtain ⟨T', h', X', e', W, st⟩ := stC X hx hZ eT A (j := Int32.ofNat i) (by rw [S]; exact own_in hi M) hg hs hd
  rw [own_cl (by omega)] at X' W
  exact ⟨T', h', X', e', W, IA.set A S M H hi (fits_nar_char _) W, st⟩
theorem own_stZ (X : Stand p l e R s m args below meth c T locs cells slots) (hx : p.tables.exec = Jvm.exec) (hZ : Z.Warmed39 s.vm) (eT : T.heap = h) (A : IA Z h a .boolean n f) {j x : Int32} {i : Nat} (hj : j = Int32.ofNat i) (hi : i < n) {g : JFrame} (hg : g.method = m) {rest : List Value} (hs : g.stack = .int x :: .int j :: .ref a :: rest) (hd : decode c.code g.pc = .ok (.bastore, 1)) :
    ∃ T' h', Stand p l e R s m args below meth c T' (locs ++ [⟨a, i⟩]) cells slots ∧ T'.heap = h' ∧ Wr h h' a i (.int (nar .boolean x)) ∧ IA Z h' a .boolean n (own_upd f i (nar .boolean x)) ∧ ∀ target, Steps p.tables e below (T'.setTop { g with pc := g.pc + 1, stack := rest }) target → Steps p.tables e below (T.setTop g) target := by
  obtain ⟨cl, A, S, M, H⟩ := A
  subst hj
  obtain ⟨T', h', X', e', W, st⟩ := stZ X hx hZ eT A (j := Int32.ofNat i) (by rw [S]; exact own_in hi M) hg hs hd
  rw [own_cl (by omega)] at X' W
  exact ⟨T', h', X', e', W, IA.set A S M H hi (fits_nar_bool _) W, st⟩
theorem own_ldI (X : Stand p l e R s m args below meth c T locs cells slots) (hx : p.tables.exec = Jvm.exec) (hZ : Z.Warmed39 s.vm) (eT : T.heap = h) (A : IA Z h a .int n f) {j : Int32} {i : Nat} (hj : j = Int32.ofNat i) (hi : i < n) {g : JFrame} (hg : g.method = m) {rest : List Value} (hs : g.stack = .int j :: .ref a :: rest) (hd : decode c.code g.pc = .ok (.iaload, 1)) :
    ∀ target, Steps p.tables e below (T.setTop { g with pc := g.pc + 1, stack := .int (f i) :: rest }) target → Steps p.tables e below (T.setTop g) target := by
  obtain ⟨cl, A, S, M, H⟩ := A
  subst hj
  exact X.iaload hx (j := Int32.ofNat i) (v := .int (f i)) (by rw [eT]; exact A.1) (State.isArrayOf_alike hZ.alike A.2.1) A.2.2 (by rw [S]; exact own_in hi M) (by rw [own_cl (by omega)]; exact (H i hi).1) hg hs hd
theorem own_ldB (X : Stand p l e R s m args below meth c T locs cells slots) (hx : p.tables.exec = Jvm.exec) (hZ : Z.Warmed39 s.vm) (eT : T.heap = h) (A : IA Z h a .byte n f) {j : Int32} {i : Nat} (hj : j = Int32.ofNat i) (hi : i < n) {g : JFrame} (hg : g.method = m) {rest : List Value} (hs : g.stack = .int j :: .ref a :: rest) (hd : decode c.code g.pc = .ok (.baload, 1)) :
    ∀ target, Steps p.tables e below (T.setTop { g with pc := g.pc + 1, stack := .int (f i) :: rest }) target → Steps p.tables e below (T.setTop g) target := by
  obtain ⟨cl, A, S, M, H⟩ := A
  subst hj
  exact X.baloadBytes hx (j := Int32.ofNat i) (v := .int (f i)) (by rw [eT]; exact A.1) (State.isArrayOf_alike hZ.alike A.2.1) A.2.2 (by rw [S]; exact own_in hi M) (by rw [own_cl (by omega)]; exact (H i hi).1) hg hs hd
theorem own_ldZ (X : Stand p l e R s m args below meth c T locs cells slots) (hx : p.tables.exec = Jvm.exec) (hZ : Z.Warmed39 s.vm) (eT : T.heap = h) (A : IA Z h a .boolean n f) {j : Int32} {i : Nat} (hj : j = Int32.ofNat i) (hi : i < n) {g : JFrame} (hg : g.method = m) {rest : List Value} (hs : g.stack = .int j :: .ref a :: rest) (hd : decode c.code g.pc = .ok (.baload, 1)) :
    ∀ target, Steps p.tables e below (T.setTop { g with pc := g.pc + 1, stack := .int (f i) :: rest }) target → Steps p.tables e below (T.setTop g) target := by
  obtain ⟨cl, A, S, M, H⟩ := A
  subst hj
  exact X.baloadBooleans hx (j := Int32.ofNat i) (v := .int (f i)) (by rw [eT]; exact A.1) (State.isArrayOf_alike hZ.alike A.2.1) A.2.2 (by rw [S]; exact own_in hi M) (by rw [own_cl (by omega)]; exact (H i hi).1) hg hs hd
theorem own_ldC (X : Stand p l e R s m args below meth c T locs cells slots) (hx : p.tables.exec = Jvm.exec) (hZ : Z.Warmed39 s.vm) (eT : T.heap = h) (A : IA Z h a .char n f) {j : Int32} {i : Nat} (hj : j = Int32.ofNat i) (hi : i < n) {g : JFrame} (hg : g.method = m) {rest : List Value} (hs : g.stack = .int j :: .ref a :: rest) (hd : decode c.code g.pc = .ok (.caload, 1)) :
    ∀ target, Steps p.tables e below (T.setTop { g with pc := g.pc + 1, stack := .int (f i) :: rest }) target → Steps p.tables e below (T.setTop g) target := by
  obtain ⟨cl, A, S, M, H⟩ := A
  subst hj
  exact X.caload hx (j := Int32.ofNat i) (v := .int (f i)) (by rw [eT]; exact A.1) (State.isArrayOf_alike hZ.alike A.2.1) A.2.2 (by rw [S]; exact own_in hi M) (by rw [own_cl (by omega)]; exact (H i hi).1) hg hs hd
theorem own_len (X : Stand p l e R s m args below meth c T locs cells slots) (hx : p.tables.exec = Jvm.exec) (hZ : Z.Warmed39 s.vm) (eT : T.heap = h) (A : IA Z h a ty n f) {g : JFrame} (hg : g.method = m) {rest : List Value} (hs : g.stack = .ref a :: rest) (hd : decode c.code g.pc = .ok (.arraylength, 1)) :
    ∀ target, Steps p.tables e below (T.setTop { g with pc := g.pc + 1, stack := .int (Int32.ofNat n) :: rest }) target → Steps p.tables e below (T.setTop g) target := by
  obtain ⟨cl, A, S, M, H⟩ := A
  subst S
  exact X.arraylength hx (by rw [eT]; exact A.1) (State.isArrayOf_alike hZ.alike A.2.1) hg hs hd
end IAs
end Jvm.RoadKit
namespace Jvm.RoadKit
open Sem ClassFile Op Lib Jvm.Stand Jvm.Free Jvm.LawKit
theorem own_eqNat {x : Int32} {n : Nat} (h : x.toInt = n) : x = Int32.ofNat n := Int32.toInt_inj.mp (by rw [h, own_nat (by have := x.toInt_lt; omega)])
theorem own_andN (x m : Int32) (k : Nat) (hk : k < 32) (hm : m.toBitVec.toNat = 2 ^ k - 1) : ∃ n : Nat, n < 2 ^ k ∧ x &&& m = Int32.ofNat n := by
  have h := Jvm.Kit.i32_mask x m hk hm
  have hpos : (0 : Int) < 2 ^ k := Int.pow_pos (by decide)
  have h1 := Int.emod_nonneg x.toInt (Int.ne_of_gt hpos)
  have h2 := Int.emod_lt_of_pos x.toInt hpos
  refine ⟨(x.toInt % 2 ^ k).toNat, ?_, own_eqNat ?_⟩
  · have e : ((2 ^ k : Nat) : Int) = (2 : Int) ^ k := by rw [Int.natCast_pow]; rfl
    omega
  · rw [h]; omega
theorem own_modN (x : Int32) (d : Nat) (h0 : 0 < d) (hd : d < 2 ^ 31) : ∃ n : Nat, n < d ∧ (x &&& 2147483647) % Int32.ofNat d = Int32.ofNat n := by
  have h := Jvm.Kit.i32_mask x 2147483647 (k := 31) (by decide) (by decide)
  have h1 := Int.emod_nonneg x.toInt (show (2 : Int) ^ 31 ≠ 0 by decide)
  have e := Jvm.Kit.i32_rem_nonneg (x := x &&& 2147483647) (y := Int32.ofNat d) (by rw [h]; exact h1)
  rw [own_nat hd] at e
  have h2 := Int.emod_nonneg (x &&& 2147483647).toInt (show (d : Int) ≠ 0 by omega)
  have h3 := Int.emod_lt_of_pos (x &&& 2147483647).toInt (show (0 : Int) < d by omega)
  exact ⟨((x &&& 2147483647).toInt % d).toNat, by omega, own_eqNat (by rw [e]; omega)⟩
theorem own_lt {i n : Nat} (hi : i < 2 ^ 31) (hn : n < 2 ^ 31) : Int32.ofNat i < Int32.ofNat n ↔ i < n := by
  rw [Int32.lt_iff_toInt_lt, own_nat hi, own_nat hn]; omega
theorem own_inj {i n : Nat} (hi : i < 2 ^ 31) (hn : n < 2 ^ 31) : Int32.ofNat i = Int32.ofNat n ↔ i = n := by
  rw [← Int32.toInt_inj, own_nat hi, own_nat hn]; omega
theorem own_add {i n : Nat} (h : i + n < 2 ^ 31) : Int32.ofNat i + Int32.ofNat n = Int32.ofNat (i + n) :=
  own_eqNat (by rw [Jvm.Kit.i32_add (by rw [own_nat (by omega), own_nat (by omega)]; omega) (by rw [own_nat (by omega), own_nat (by omega)]; omega), own_nat (by omega), own_nat (by omega)]; omega)
end Jvm.RoadKit
namespace Jvm.RoadKit
open Sem ClassFile Op Lib Jvm.Stand Jvm.Free Jvm.LawKit
section Switch
variable {p : Program} {l : Launch} {e : Env} {R : Room} {s : State} {m : MethodId} {args : Array Value} {below : List Frame} {meth : Method} {c : Code} {T : State} {locs : List Loc} {cells slots : Nat}
theorem own_lswH (X : Stand p l e R s m args below meth c T locs cells slots) (hx : p.tables.exec = Jvm.exec) {g : JFrame} (hg : g.method = m) {k : Int32} {rest : List Value} {pc0 pc' : Nat} (hpc : g.pc = pc0)
    (hs : g.stack = .int k :: rest) {dflt : Int} {pairs : Array (Int × Int)} {len : Nat} (hd : decode c.code g.pc = .ok (.lookupswitch dflt pairs, len))
    (hsorted : (pairs.toList.zip (pairs.toList.drop 1)).all (fun (a, next) => a.1 < next.1) = true) {a off : Int} (hfind : pairs.find? (·.1 == k.toInt) = some (a, off)) (ho : 0 ≤ (pc0 : Int) + off) (hp : ((pc0 : Int) + off).toNat = pc')
    (target : State) (hr : Steps p.tables e below (T.setTop { g with pc := pc', stack := rest }) target) : Steps p.tables e below (T.setTop g) target := by
  subst hpc hp
  exact X.lookupswitchHit hx hg hs hd hsorted hfind ho target hr
theorem own_lswM (X : Stand p l e R s m args below meth c T locs cells slots) (hx : p.tables.exec = Jvm.exec) {g : JFrame} (hg : g.method = m) {k : Int32} {rest : List Value} {pc0 pc' : Nat} (hpc : g.pc = pc0)
    (hs : g.stack = .int k :: rest) {dflt : Int} {pairs : Array (Int × Int)} {len : Nat} (hd : decode c.code g.pc = .ok (.lookupswitch dflt pairs, len))
    (hsorted : (pairs.toList.zip (pairs.toList.drop 1)).all (fun (a, next) => a.1 < next.1) = true) (hfind : ∀ q ∈ pairs.toList, q.1 ≠ k.toInt) (ho : 0 ≤ (pc0 : Int) + dflt) (hp : ((pc0 : Int) + dflt).toNat = pc')
    (target : State) (hr : Steps p.tables e below (T.setTop { g with pc := pc', stack := rest }) target) : Steps p.tables e below (T.setTop g) target := by
  subst hpc hp
  exact X.lookupswitchMiss hx hg hs hd hsorted (find_miss hfind) ho target hr
theorem own_nk {x y : Int32} {z : Int} (hz : y.toInt = z) (h : ¬ x = y) : z ≠ x.toInt := fun q => h (Int32.toInt_inj.mp (q.symm.trans hz.symm))
end Switch
end Jvm.RoadKit
namespace Jvm.RoadKit
open Sem ClassFile Op Lib Jvm.Stand Jvm.Free Jvm.LawKit
section Statics
variable {Z : State} {args : Array Value} {C n d K : String} {t : Term} {a : Addr}
theorem own_sta (h : (Cond.exactly (.static C n d) K).value args Z none Z [] = some true) (hi : (Cond.initialized C).before args Z = true) (hl : (Cond.laysStatic C n d).before args Z = true) : ∃ a, (Term.static C n d).eval args Z none [] Z = some (.ref a) ∧ Sta Z Z.heap C n d (.ref a) ∧ Exa Z Z.heap a K := by
  obtain ⟨a, e⟩ := exa_v h
  exact ⟨a, e, Sta.start e (Or.inr ⟨hi, hl⟩), Exa.start e h⟩
theorem own_stfI {k : Int32} (e : t.eval args Z none [] Z = some (.ref a)) (h : (Cond.eq (.field t C n d) (.int k)).value args Z none Z [] = some true) : Fld Z Z.heap a C n d (.int k) := by
  apply Fld.start
  simp only [Cond.value, Term.eval, e, Option.bind_eq_bind, Option.bind_some] at h
  cases hf : Z.fieldOf? a C n d with
  | none => simp [hf] at h
  | some x => cases x <;> simp [hf] at h ⊢; exact h
theorem own_stfJ {k : Int64} (e : t.eval args Z none [] Z = some (.ref a)) (h : (Cond.eq (.field t C n d) (.long k)).value args Z none Z [] = some true) : Fld Z Z.heap a C n d (.long k) := by
  apply Fld.start
  simp only [Cond.value, Term.eval, e, Option.bind_eq_bind, Option.bind_some] at h
  cases hf : Z.fieldOf? a C n d with
  | none => simp [hf] at h
  | some x => cases x <;> simp [hf] at h ⊢; exact h
end Statics
end Jvm.RoadKit
namespace Jvm.RoadKit
open Sem ClassFile Op Lib Jvm.Stand Jvm.Free Jvm.LawKit
theorem own_lrem {tb : Tables} [Ours tb] {e : Env} {below : List Frame} {T target : State} {m : MethodId} {c : Code} {g : JFrame} (h : At T m c below) (hx : tb.exec = Jvm.exec) (hg : g.method = m) {x y : Int64} {rest : List Value} (hd : decode c.code g.pc = .ok (.lrem, 1)) (hs : g.stack = .long y :: .long x :: rest) (hy : y ≠ 0)
    (hr : Steps tb e below (T.setTop { g with pc := g.pc + 1, stack := .long (x % y) :: rest }) target) : Steps tb e below (T.setTop g) target :=
  XS.lrem h hx hg hd hs hy (by rw [lrem_mod]; exact hr)
theorem own_irem_mod (x y : Int32) : x - (x / y) * y = x % y := by
  apply Int32.toInt_inj.mp
  have h1 := Int32.le_toInt (x % y)
  have h2 := Int32.toInt_lt (x % y)
  rw [Int32.toInt_sub, Int32.toInt_mul, Int32.toInt_div, Int.bmod_mul_bmod, Int.sub_bmod_bmod, Int.mul_comm (x.toInt.tdiv y.toInt), ← Int.tmod_def, ← Int32.toInt_mod]
  exact Int.bmod_eq_of_le_mul_two (by omega) (by omega)
theorem own_irem {tb : Tables} [Ours tb] {e : Env} {below : List Frame} {T target : State} {m : MethodId} {c : Code} {g : JFrame} (h : At T m c below) (hx : tb.exec = Jvm.exec) (hg : g.method = m) {x y : Int32} {rest : List Value} (hd : decode c.code g.pc = .ok (.irem, 1)) (hs : g.stack = .int y :: .int x :: rest) (hy : y ≠ 0)
    (hr : Steps tb e below (T.setTop { g with pc := g.pc + 1, stack := .int (x % y) :: rest }) target) : Steps tb e below (T.setTop g) target :=
  XS.irem h hx hg hd hs hy (by rw [own_irem_mod]; exact hr)
theorem own_div1 (x : Int64) : x / 1 = x := Int64.toInt_inj.mp (by
  rw [Jvm.Kit.i64_div (fun q => by have := q.2; revert this; decide)]
  show x.toInt.tdiv 1 = x.toInt
  exact Int.tdiv_one _)
end Jvm.RoadKit
namespace Jvm.RoadKit
open Sem ClassFile Op Lib Jvm.Stand Jvm.Free Jvm.LawKit
theorem own_kx {h h' : Heap} (K : Keep h h' []) : Ext h h' := ⟨K.1, fun a c q => K.2.1 a c q nin0⟩
section Unlike
variable {Z : State} {a0 : Array Value}
theorem own_nsroot {O K : String} {n : Nat} (w : (Cond.noSuperclass O).before a0 Z = true) (wk : (Cond.instantiable K n).before a0 Z = true) (hn : O ≠ K) : NS Z O K := by
  obtain ⟨c, k, h1, h2, h3, -, -⟩ := Cond.noSuperclass_spec w
  obtain ⟨t, k', g1, g2, -⟩ := Cond.instantiable_spec wk
  have ne := ids_ne h1 g1 hn
  refine ⟨c, t, h1, g1, fun fuel => ?_⟩
  cases fuel with
  | zero => rfl
  | succ f => simp [Vm.isSubclassAux, ne, h2, h3]
theorem own_nsno {C S K : String} {n : Nat} (w : (Cond.superclass C S).before a0 Z = true) (wk : (Cond.instantiable K n).before a0 Z = true) (N : NS Z C K) (hn : C ≠ K) : ∃ c t, Z.vm.findClass C = some c ∧ Z.vm.findClass K = some t ∧ Z.vm.assignable c t = false := by
  obtain ⟨c, t, h0, g0, n3⟩ := N
  obtain ⟨p, k, kp, h1, h2, h3, h4, h5, -, h7⟩ := Cond.superclass_spec h0 w
  obtain ⟨t', k', g1, g2, g3, g4, -⟩ := Cond.instantiable_spec wk
  cases g0.symm.trans g1
  have g7 : k'.isInterface = false := by
    cases hq : k'.isInterface with
    | false => rfl
    | true => rw [hq] at g4; simp at g4
  have ne := ids_ne h0 g0 hn
  refine ⟨c, t, h0, g0, ?_⟩
  show Z.vm.assignableAux (255 + 1) c t = false
  simp [Vm.assignableAux, ne, h2, g2, h5, g3, g7, Vm.isSubclass, n3]
end Unlike
end Jvm.RoadKit
namespace Jvm.RoadKit
open Sem ClassFile Op Lib Jvm.Stand Jvm.Free Jvm.LawKit
section Clone
variable {p : Program} {l : Launch} {e : Env} {R : Room} {s : State} {m : MethodId} {args : Array Value} {below : List Frame} {meth : Method} {c : Code} {T : State} {locs : List Loc} {cells slots : Nat} {Z : State} {a0 : Array Value} {h : Heap} {a : Addr} {ty : FieldType} {n : Nat} {f : Nat → Int32}
theorem own_clone (X : Stand p l e R s m args below meth c T locs cells slots) (hx : p.tables.exec = Jvm.exec) (hZ : Z.Warmed39 s.vm) {own ad : String} {index : Nat} (hown : s.vm.findClass own = some m.cls)
    (w1 : (Cond.methodLink own index ⟨ad, "clone", "()Ljava/lang/Object;"⟩).before a0 Z = true) (w2 : (Cond.sameMethod ad "java/lang/Object" "clone" "()Ljava/lang/Object;").before a0 Z = true) (w3 : (Cond.native ⟨"java/lang/Object", "clone", "()Ljava/lang/Object;"⟩).before a0 Z = true)
    (w4 : (Cond.instanceMethod ⟨"java/lang/Object", "clone", "()Ljava/lang/Object;"⟩).before a0 Z = true) (w5 : (Cond.selects ad ⟨ad, "clone", "()Ljava/lang/Object;"⟩ ⟨"java/lang/Object", "clone", "()Ljava/lang/Object;"⟩).before a0 Z = true) (w6 : (Cond.castable ad "java/lang/Cloneable").before a0 Z = true)
    (eT : T.heap = h) (A : IA Z h a ty n f) (E : Exa Z h a ad) {g : JFrame} (hg : g.method = m) (hsize : g.locals.size = c.maxLocals) {rest : List Value} (hs : g.stack = .ref a :: rest) (hd : decode c.code g.pc = .ok (.invokevirtual index, 3))
    (hf : 1 ≤ R.frames) {W cap : Nat} (hW : 2 * g.monitorRoom + (rest.map fun v => v.category).sum ≤ W) (hl : W + 14 ≤ R.locals) (hcap : n ≤ cap) (hc : cells + 1 ≤ R.cells) (hsl : slots + cap ≤ R.slots) :
    ∃ T' h', Stand p l e R s m args below meth c T' locs (cells + 1) (slots + cap) ∧ T'.heap = h' ∧ Ext h h' ∧ IA Z h' h.size ty n f ∧ Exa Z h' h.size ad ∧
      ∀ target, Steps p.tables e below (T'.setTop { g with pc := g.pc + 3, stack := .ref h.size :: rest }) target → Steps p.tables e below (T.setTop g) target := by
  obtain ⟨cl, A, S, M, H⟩ := A
  have FC : FitC Z cl := fitC_of A fun i hi v hv => by
    rw [S] at hi
    rw [(H i hi).1] at hv
    cases hv
    exact (H i hi).2
  obtain ⟨T', h', X', e', ex, A', E', st⟩ := cloneA X hx hZ hown w1 w2 w3 w4 w5 w6 eT A E FC hg hsize hs hd hf hW hl (by rw [S]; exact hcap) hc hsl
  exact ⟨T', h', X', e', ex, ⟨cloneOf cl, A', S, M, H⟩, E', st⟩
end Clone
theorem own_sub {i n : Nat} (h : n ≤ i) (hi : i < 2 ^ 31) : Int32.ofNat i - Int32.ofNat n = Int32.ofNat (i - n) :=
  own_eqNat (by rw [Jvm.Kit.i32_sub (by rw [own_nat (by omega), own_nat (by omega)]; omega) (by rw [own_nat (by omega), own_nat (by omega)]; omega), own_nat (by omega), own_nat (by omega)]; omega)
end Jvm.RoadKit
namespace Jvm.RoadKit
open Sem ClassFile Op Lib Jvm.Stand Jvm.Free Jvm.LawKit
theorem own_stak {Z : State} {h h' : Heap} {C n d D : String} {v : Value} {a : Addr} (F : Sta Z h C n d v) (K : Keep h h' [a]) (E : Exa Z h a D) : Sta Z h' C n d v := by
  obtain ⟨cf, i, k, f, st, cell, h1, h2, h3, h4, h5, h6, h7⟩ := F
  obtain ⟨cell', k', e1, -, -, e4, -⟩ := E
  have ne : st ≠ a := fun q => by
    subst q
    cases h5.symm.trans e1
    rw [e4] at h6
    cases h6
  exact ⟨cf, i, k, f, st, cell, h1, h2, h3, h4, K.2.1 _ _ h5 (ninS ne nin0), h6, h7⟩
end Jvm.RoadKit
namespace Jvm.RoadKit
theorem own_us {f : Nat → Int32} {i : Nat} {v : Int32} : own_upd f i v i = v := if_pos rfl
theorem own_un {f : Nat → Int32} {i k : Nat} {v : Int32} (h : k ≠ i) : own_upd f i v k = f k := if_neg h
end Jvm.RoadKit
namespace Jvm.Pilot.@@N@@
open Jvm Jvm.ClassFile Sem Op Lib Jvm.Free Jvm.Stand Jvm.LawKit Jvm.RoadKit Bundle Jvm.Pilot.@@N@@.Jvm.D
theorem pd_0 : parseMethodDescriptor "(I)I" = some ⟨[.int], some .int⟩ := by decide +kernel
theorem pd_1 : parseMethodDescriptor "([BIII[BB)Z" = some ⟨[(.array .byte), .int, .int, .int, (.array .byte), .byte], some .boolean⟩ := by decide +kernel
theorem pd_2 : parseMethodDescriptor "([B[BI)I" = some ⟨[(.array .byte), (.array .byte), .int], some .int⟩ := by decide +kernel
theorem d3_0 : decode method_2_code 0 = .ok (.iload_n 0, 1) := by decide +kernel
theorem d3_1 : decode method_2_code 1 = .ok (.bipush 10, 2) := by decide +kernel
theorem d3_3 : decode method_2_code 3 = .ok (.if_icmp .ge 8, 3) := by decide +kernel
theorem d3_6 : decode method_2_code 6 = .ok (.bipush 48, 2) := by decide +kernel
theorem d3_8 : decode method_2_code 8 = .ok (.iload_n 0, 1) := by decide +kernel
theorem d3_9 : decode method_2_code 9 = .ok (.iadd, 1) := by decide +kernel
theorem d3_10 : decode method_2_code 10 = .ok (.ireturn, 1) := by decide +kernel
theorem d3_11 : decode method_2_code 11 = .ok (.bipush 65, 2) := by decide +kernel
theorem d3_13 : decode method_2_code 13 = .ok (.iload_n 0, 1) := by decide +kernel
theorem d3_14 : decode method_2_code 14 = .ok (.bipush 10, 2) := by decide +kernel
theorem d3_16 : decode method_2_code 16 = .ok (.isub, 1) := by decide +kernel
theorem d3_17 : decode method_2_code 17 = .ok (.iadd, 1) := by decide +kernel
theorem d3_18 : decode method_2_code 18 = .ok (.ireturn, 1) := by decide +kernel
theorem pn_3 : plainName "org/cardprobe/HexFormatPinLaw" = true := by first | (simp [plainName, overriddenIn]; done) | decide +kernel
theorem ef_rm3 (m : MethodId) (x0 : Int32) : entryFrame m #[(.int x0)] 1 = mkF m 0 #[.val (.int x0)] [] := by first | (simp [entryFrame, mkF, argsToLocals, Value.category]; done) | rfl
def f3 (p0 : Int32) : Int32 := (if p0 < (10 : Int32) then ((48 : Int32) + p0) else ((65 : Int32) + (p0 - (10 : Int32))))
set_option maxRecDepth 65536 in
set_option maxHeartbeats 40000000 in
theorem rm3 (l : Launch) (Z : State) (a0 : Array Value) (hw : ∀ d ∈ tables_1, d.before a0 Z = true) (ws : List Jvm.Cond) (p0 : Int32) (h0 : Heap) (n0 : Nat) (Z0 : n0 ≤ h0.size) :
    MetFree l (⟨"org/cardprobe/HexFormatPinLaw", "hexDigit", "(I)I"⟩ : MethodName) (head1 (Jvm.Cond.code (⟨"org/cardprobe/HexFormatPinLaw", "hexDigit", "(I)I"⟩ : MethodName) method_2_code 1 (some .int) :: ws) ({ frames := 0, cells := 0, slots := 0, locals := 0 } : Room)) (fun a U => a = #[(.int p0)] ∧ Z.Warmed39 U.vm ∧ U.heap = h0) (fun _ _ _ _ _ => True) (fun _ U o U' => ∃ v L, o = .returned v ∧ Qp (.int (f3 p0)) h0 n0 v U'.heap L ∧ FrameEnd U o U' L ({ frames := 0, cells := 0, slots := 0, locals := 0 } : Room).cells ({ frames := 0, cells := 0, slots := 0, locals := 0 } : Room).slots) := by
  refine MetFree.of_bodySF (plainFor_of_name pn_3) hisR ?_
  intro p e s m args below meth c s₁ Bd hml0 hP hK
  obtain ⟨rfl, hZ, hh⟩ := hP
  have hx := Bd.exec
  have hby := Bd.bytes
  have hml : c.maxLocals = 1 := hml0
  have hown : s.vm.findClass "org/cardprobe/HexFormatPinLaw" = some m.cls := findClass_of_methodNamed Bd.named
  have hnm := (name_of_methodNamed Bd.named Bd.method).1
  have hlk : meth.locks = false := BodyLoose.notSynchronized Bd
  have X0 : Stand p l e ({ frames := 0, cells := 0, slots := 0, locals := 0 } : Room) s m #[(.int p0)] below meth c s₁ [] 0 0 := Stand.of_body Bd
  have e0 : s₁.heap = h0 := by rw [← hh, Bd.state]; rfl
  have N0 := Fr.nil n0
  have K0 : Keep h0 h0 [] := Keep.refl _ _
  show Goes p e below s (Qp (.int (f3 p0)) h0 n0) ({ frames := 0, cells := 0, slots := 0, locals := 0 } : Room).cells ({ frames := 0, cells := 0, slots := 0, locals := 0 } : Room).slots (s₁.setTop (entryFrame m #[(.int p0)] 1))
  rw [ef_rm3]
  show Goes p e below s _ _ _ (s₁.setTop (mkF m 0 #[.val (.int p0)] []))
  refine Goes.go (fun _ kst => XS.iloadN X0.here hx rfl (hb hby d3_0) rfl  kst) ?_
  show Goes p e below s _ _ _ (s₁.setTop (mkF m 1 #[.val (.int p0)] [(.int p0)]))
  refine Goes.go (fun _ kst => XS.bipush X0.here hx rfl (hb hby d3_1) kst) ?_
  show Goes p e below s _ _ _ (s₁.setTop (mkF m 3 #[.val (.int p0)] [(.int (10 : Int32)), (.int p0)]))
  by_cases hc3_1 : p0 < (10 : Int32)
  · skip
    refine Goes.qi (if_pos hc3_1) ?_
    refine Goes.go (fun _ kst => XS.icmpNo X0.here hx rfl (hb hby d3_3) rfl (tlt hc3_1).2.1 kst) ?_
    show Goes p e below s _ _ _ (s₁.setTop (mkF m 6 #[.val (.int p0)] []))
    refine Goes.go (fun _ kst => XS.bipush X0.here hx rfl (hb hby d3_6) kst) ?_
    show Goes p e below s _ _ _ (s₁.setTop (mkF m 8 #[.val (.int p0)] [(.int (48 : Int32))]))
    refine Goes.go (fun _ kst => XS.iloadN X0.here hx rfl (hb hby d3_8) rfl  kst) ?_
    show Goes p e below s _ _ _ (s₁.setTop (mkF m 9 #[.val (.int p0)] [(.int p0), (.int (48 : Int32))]))
    refine Goes.go (fun _ kst => XS.iadd X0.here hx rfl (hb hby d3_9) rfl kst) ?_
    show Goes p e below s _ _ _ (s₁.setTop (mkF m 10 #[.val (.int p0)] [(.int ((48 : Int32) + p0))]))
    refine Goes.retI X0 hx hlk Bd.returns (hb hby d3_10) ?_ (by decide) (by decide)
    exact ⟨by rfl, N0, e0⟩
  · skip
    refine Goes.qi (if_neg hc3_1) ?_
    refine Goes.go (fun _ kst => XS.icmpYes X0.here hx rfl (pc0 := 3) (pc' := 11) rfl (hb hby d3_3) rfl (flt hc3_1).2.1 (by decide) (by decide) kst) ?_
    show Goes p e below s _ _ _ (s₁.setTop (mkF m 11 #[.val (.int p0)] []))
    refine Goes.go (fun _ kst => XS.bipush X0.here hx rfl (hb hby d3_11) kst) ?_
    show Goes p e below s _ _ _ (s₁.setTop (mkF m 13 #[.val (.int p0)] [(.int (65 : Int32))]))
    refine Goes.go (fun _ kst => XS.iloadN X0.here hx rfl (hb hby d3_13) rfl  kst) ?_
    show Goes p e below s _ _ _ (s₁.setTop (mkF m 14 #[.val (.int p0)] [(.int p0), (.int (65 : Int32))]))
    refine Goes.go (fun _ kst => XS.bipush X0.here hx rfl (hb hby d3_14) kst) ?_
    show Goes p e below s _ _ _ (s₁.setTop (mkF m 16 #[.val (.int p0)] [(.int (10 : Int32)), (.int p0), (.int (65 : Int32))]))
    refine Goes.go (fun _ kst => XS.isub X0.here hx rfl (hb hby d3_16) rfl kst) ?_
    show Goes p e below s _ _ _ (s₁.setTop (mkF m 17 #[.val (.int p0)] [(.int (p0 - (10 : Int32))), (.int (65 : Int32))]))
    refine Goes.go (fun _ kst => XS.iadd X0.here hx rfl (hb hby d3_17) rfl kst) ?_
    show Goes p e below s _ _ _ (s₁.setTop (mkF m 18 #[.val (.int p0)] [(.int ((65 : Int32) + (p0 - (10 : Int32))))]))
    refine Goes.retI X0 hx hlk Bd.returns (hb hby d3_18) ?_ (by decide) (by decide)
    exact ⟨by rfl, N0, e0⟩
theorem own_q {kp na : Nat} (h : ¬ Int32.ofNat kp < Int32.ofNat na) (h1 : kp < 15) (h2 : na ≤ 3) : na ≤ kp := by
  have := mt (own_lt (i := kp) (n := na) (by omega) (by omega)).mpr h
  omega
theorem own_div3 {k : Nat} (h : k < 15) : Int32.ofNat k / (3 : Int32) = Int32.ofNat (k / 3) := by
  have : ∀ k : Fin 15, Int32.ofNat k.val / (3 : Int32) = Int32.ofNat (k.val / 3) := by decide +kernel
  exact this ⟨k, h⟩
theorem own_ln3 {nn : Nat} (h : nn ≤ 4) {kp na : Nat} (h1 : kp < 15) (h2 : na ≤ 3) (hq : Int32.ofNat kp < Int32.ofNat na + (if Int32.ofNat nn = (0 : Int32) then (0 : Int32) else (((3 : Int32) * Int32.ofNat nn) - (1 : Int32)))) : kp - na < 12 := by
  have T : ∀ (nn : Fin 5) (na : Fin 4) (kp : Fin 15), Int32.ofNat kp.val < Int32.ofNat na.val + (if Int32.ofNat nn.val = (0 : Int32) then (0 : Int32) else (((3 : Int32) * Int32.ofNat nn.val) - (1 : Int32))) → kp.val - na.val < 12 := by decide +kernel
  exact T ⟨nn, by omega⟩ ⟨na, by omega⟩ ⟨kp, h1⟩ hq
theorem d2_0 : decode method_3_code 0 = .ok (.iload_n 3, 1) := by decide +kernel
theorem d2_1 : decode method_3_code 1 = .ok (.ifCond .ne 7, 3) := by decide +kernel
theorem d2_4 : decode method_3_code 4 = .ok (.iconst 0, 1) := by decide +kernel
theorem d2_5 : decode method_3_code 5 = .ok (.goto 8, 3) := by decide +kernel
theorem d2_8 : decode method_3_code 8 = .ok (.iconst 3, 1) := by decide +kernel
theorem d2_9 : decode method_3_code 9 = .ok (.iload_n 3, 1) := by decide +kernel
theorem d2_10 : decode method_3_code 10 = .ok (.imul, 1) := by decide +kernel
theorem d2_11 : decode method_3_code 11 = .ok (.iconst 1, 1) := by decide +kernel
theorem d2_12 : decode method_3_code 12 = .ok (.isub, 1) := by decide +kernel
theorem d2_13 : decode method_3_code 13 = .ok (.istore 6, 2) := by decide +kernel
theorem d2_15 : decode method_3_code 15 = .ok (.iload_n 1, 1) := by decide +kernel
theorem d2_16 : decode method_3_code 16 = .ok (.iload_n 2, 1) := by decide +kernel
theorem d2_17 : decode method_3_code 17 = .ok (.if_icmp .lt 11, 3) := by decide +kernel
theorem d2_20 : decode method_3_code 20 = .ok (.iload_n 1, 1) := by decide +kernel
theorem d2_21 : decode method_3_code 21 = .ok (.iload_n 2, 1) := by decide +kernel
theorem d2_22 : decode method_3_code 22 = .ok (.iload 6, 2) := by decide +kernel
theorem d2_24 : decode method_3_code 24 = .ok (.iadd, 1) := by decide +kernel
theorem d2_25 : decode method_3_code 25 = .ok (.if_icmp .lt 10, 3) := by decide +kernel
theorem d2_28 : decode method_3_code 28 = .ok (.iload 5, 2) := by decide +kernel
theorem d2_30 : decode method_3_code 30 = .ok (.istore 7, 2) := by decide +kernel
theorem d2_32 : decode method_3_code 32 = .ok (.goto 71, 3) := by decide +kernel
theorem d2_35 : decode method_3_code 35 = .ok (.iload_n 1, 1) := by decide +kernel
theorem d2_36 : decode method_3_code 36 = .ok (.iload_n 2, 1) := by decide +kernel
theorem d2_37 : decode method_3_code 37 = .ok (.isub, 1) := by decide +kernel
theorem d2_38 : decode method_3_code 38 = .ok (.istore 8, 2) := by decide +kernel
theorem d2_40 : decode method_3_code 40 = .ok (.iload 8, 2) := by decide +kernel
theorem d2_42 : decode method_3_code 42 = .ok (.iconst 3, 1) := by decide +kernel
theorem d2_43 : decode method_3_code 43 = .ok (.idiv, 1) := by decide +kernel
theorem d2_44 : decode method_3_code 44 = .ok (.istore 9, 2) := by decide +kernel
theorem d2_46 : decode method_3_code 46 = .ok (.iload 8, 2) := by decide +kernel
theorem d2_48 : decode method_3_code 48 = .ok (.iconst 3, 1) := by decide +kernel
theorem d2_49 : decode method_3_code 49 = .ok (.irem, 1) := by decide +kernel
theorem d2_50 : decode method_3_code 50 = .ok (.istore 10, 2) := by decide +kernel
theorem d2_52 : decode method_3_code 52 = .ok (.aload 4, 2) := by decide +kernel
theorem d2_54 : decode method_3_code 54 = .ok (.iload 9, 2) := by decide +kernel
theorem d2_56 : decode method_3_code 56 = .ok (.baload, 1) := by decide +kernel
theorem d2_57 : decode method_3_code 57 = .ok (.sipush 255, 3) := by decide +kernel
theorem d2_60 : decode method_3_code 60 = .ok (.iand, 1) := by decide +kernel
theorem d2_61 : decode method_3_code 61 = .ok (.istore 11, 2) := by decide +kernel
theorem d2_63 : decode method_3_code 63 = .ok (.iload 10, 2) := by decide +kernel
theorem d2_65 : decode method_3_code 65 = .ok (.ifCond .ne 15, 3) := by decide +kernel
theorem d2_68 : decode method_3_code 68 = .ok (.iload 11, 2) := by decide +kernel
theorem d2_70 : decode method_3_code 70 = .ok (.iconst 4, 1) := by decide +kernel
theorem d2_71 : decode method_3_code 71 = .ok (.iushr, 1) := by decide +kernel
theorem d2_72 : decode method_3_code 72 = .ok (.invokestatic 7, 3) := by decide +kernel
theorem d2_75 : decode method_3_code 75 = .ok (.istore 7, 2) := by decide +kernel
theorem d2_77 : decode method_3_code 77 = .ok (.goto 26, 3) := by decide +kernel
theorem d2_80 : decode method_3_code 80 = .ok (.iload 10, 2) := by decide +kernel
theorem d2_82 : decode method_3_code 82 = .ok (.iconst 1, 1) := by decide +kernel
theorem d2_83 : decode method_3_code 83 = .ok (.if_icmp .ne 16, 3) := by decide +kernel
theorem d2_86 : decode method_3_code 86 = .ok (.iload 11, 2) := by decide +kernel
theorem d2_88 : decode method_3_code 88 = .ok (.bipush 15, 2) := by decide +kernel
theorem d2_90 : decode method_3_code 90 = .ok (.iand, 1) := by decide +kernel
theorem d2_91 : decode method_3_code 91 = .ok (.invokestatic 7, 3) := by decide +kernel
theorem d2_94 : decode method_3_code 94 = .ok (.istore 7, 2) := by decide +kernel
theorem d2_96 : decode method_3_code 96 = .ok (.goto 7, 3) := by decide +kernel
theorem d2_99 : decode method_3_code 99 = .ok (.bipush 32, 2) := by decide +kernel
theorem d2_101 : decode method_3_code 101 = .ok (.istore 7, 2) := by decide +kernel
theorem d2_103 : decode method_3_code 103 = .ok (.aload_n 0, 1) := by decide +kernel
theorem d2_104 : decode method_3_code 104 = .ok (.iload_n 1, 1) := by decide +kernel
theorem d2_105 : decode method_3_code 105 = .ok (.baload, 1) := by decide +kernel
theorem d2_106 : decode method_3_code 106 = .ok (.iload 7, 2) := by decide +kernel
theorem d2_108 : decode method_3_code 108 = .ok (.i2b, 1) := by decide +kernel
theorem d2_109 : decode method_3_code 109 = .ok (.if_icmp .ne 7, 3) := by decide +kernel
theorem d2_112 : decode method_3_code 112 = .ok (.iconst 1, 1) := by decide +kernel
theorem d2_113 : decode method_3_code 113 = .ok (.goto 4, 3) := by decide +kernel
theorem d2_116 : decode method_3_code 116 = .ok (.iconst 0, 1) := by decide +kernel
theorem d2_117 : decode method_3_code 117 = .ok (.ireturn, 1) := by decide +kernel
theorem pn_2 : plainName "org/cardprobe/HexFormatPinLaw" = true := by first | (simp [plainName, overriddenIn]; done) | decide +kernel
theorem ef_rm2 (m : MethodId) (x0 : Addr) (x1 : Int32) (x2 : Int32) (x3 : Int32) (x4 : Addr) (x5 : Int32) : entryFrame m #[(.ref x0), (.int x1), (.int x2), (.int x3), (.ref x4), (.int x5)] 12 = mkF m 0 #[.val (.ref x0), .val (.int x1), .val (.int x2), .val (.int x3), .val (.ref x4), .val (.int x5), .unset, .unset, .unset, .unset, .unset, .unset] [] := by first | (simp [entryFrame, mkF, argsToLocals, Value.category]; done) | rfl
def f2_28 (r0 : Addr) (r4 : Addr) (p5 : Int32) (n_r0 : Nat) (v_r0 : Nat → Int32) (n_r4 : Nat) (v_r4 : Nat → Int32) (kp : Nat) (na : Nat) (nn : Nat) : Int32 := (nar .boolean (if (v_r0 kp) = (p5.toInt8.toInt32) then (1 : Int32) else (0 : Int32)))
def f2 (r0 : Addr) (r4 : Addr) (p5 : Int32) (n_r0 : Nat) (v_r0 : Nat → Int32) (n_r4 : Nat) (v_r4 : Nat → Int32) (kp : Nat) (na : Nat) (nn : Nat) : Int32 := (if (Int32.ofNat kp) < (Int32.ofNat na) then (f2_28 r0 r4 p5 n_r0 v_r0 n_r4 v_r4 kp na nn) else (if (Int32.ofNat kp) < ((Int32.ofNat na) + (if (Int32.ofNat nn) = (0 : Int32) then (0 : Int32) else (((3 : Int32) * (Int32.ofNat nn)) - (1 : Int32)))) then (if (((Int32.ofNat kp) - (Int32.ofNat na)) % (3 : Int32)) = (0 : Int32) then (nar .boolean (if (v_r0 kp) = ((f3 ((((v_r4 ((kp - na) / 3)) &&& (255 : Int32)).toUInt32 >>> ((4 : Int32) &&& 31).toUInt32).toInt32)).toInt8.toInt32) then (1 : Int32) else (0 : Int32))) else (if (((Int32.ofNat kp) - (Int32.ofNat na)) % (3 : Int32)) = (1 : Int32) then (nar .boolean (if (v_r0 kp) = ((f3 (((v_r4 ((kp - na) / 3)) &&& (255 : Int32)) &&& (15 : Int32))).toInt8.toInt32) then (1 : Int32) else (0 : Int32))) else (nar .boolean (if (v_r0 kp) = ((32 : Int32).toInt8.toInt32) then (1 : Int32) else (0 : Int32))))) else (f2_28 r0 r4 p5 n_r0 v_r0 n_r4 v_r4 kp na nn)))
set_option maxRecDepth 65536 in
set_option maxHeartbeats 40000000 in
theorem rm2 (l : Launch) (Z : State) (a0 : Array Value) (hw : ∀ d ∈ tables_1, d.before a0 Z = true) (ws : List Jvm.Cond) (r0 : Addr) (r4 : Addr) (p5 : Int32) (n_r0 : Nat) (v_r0 : Nat → Int32) (n_r4 : Nat) (v_r4 : Nat → Int32) (kp : Nat) (na : Nat) (nn : Nat) (h0 : Heap) (n0 : Nat) (Z0 : n0 ≤ h0.size) (A_r0 : IA Z h0 r0 .byte n_r0 v_r0) (A_r4 : IA Z h0 r4 .byte n_r4 v_r4) (hkp : kp < 15) (hna : na ≤ 3) (hnn : nn ≤ 4) (hnt : n_r0 = 15) (hnv : n_r4 = 4) :
    MetFree l (⟨"org/cardprobe/HexFormatPinLaw", "cell", "([BIII[BB)Z"⟩ : MethodName) (head1 (Jvm.Cond.code (⟨"org/cardprobe/HexFormatPinLaw", "cell", "([BIII[BB)Z"⟩ : MethodName) method_3_code 12 (some .boolean) :: ws) ({ frames := 1, cells := 0, slots := 0, locals := 12 } : Room)) (fun a U => a = #[(.ref r0), (.int (Int32.ofNat kp)), (.int (Int32.ofNat na)), (.int (Int32.ofNat nn)), (.ref r4), (.int p5)] ∧ Z.Warmed39 U.vm ∧ U.heap = h0) (fun _ _ _ _ _ => True) (fun _ U o U' => ∃ v L, o = .returned v ∧ Qp (.int (f2 r0 r4 p5 n_r0 v_r0 n_r4 v_r4 kp na nn)) h0 n0 v U'.heap L ∧ FrameEnd U o U' L ({ frames := 1, cells := 0, slots := 0, locals := 12 } : Room).cells ({ frames := 1, cells := 0, slots := 0, locals := 12 } : Room).slots) := by
  refine MetFree.of_bodySF (plainFor_of_name pn_2) hisR ?_
  intro p e s m args below meth c s₁ Bd hml0 hP hK
  obtain ⟨rfl, hZ, hh⟩ := hP
  have hx := Bd.exec
  have hby := Bd.bytes
  have hml : c.maxLocals = 12 := hml0
  have hown : s.vm.findClass "org/cardprobe/HexFormatPinLaw" = some m.cls := findClass_of_methodNamed Bd.named
  have hnm := (name_of_methodNamed Bd.named Bd.method).1
  have hlk : meth.locks = false := BodyLoose.notSynchronized Bd
  have X0 : Stand p l e ({ frames := 1, cells := 0, slots := 0, locals := 12 } : Room) s m #[(.ref r0), (.int (Int32.ofNat kp)), (.int (Int32.ofNat na)), (.int (Int32.ofNat nn)), (.ref r4), (.int p5)] below meth c s₁ [] 0 0 := Stand.of_body Bd
  have e0 : s₁.heap = h0 := by rw [← hh, Bd.state]; rfl
  have N0 := Fr.nil n0
  have K0 : Keep h0 h0 [] := Keep.refl _ _
  show Goes p e below s (Qp (.int (f2 r0 r4 p5 n_r0 v_r0 n_r4 v_r4 kp na nn)) h0 n0) ({ frames := 1, cells := 0, slots := 0, locals := 12 } : Room).cells ({ frames := 1, cells := 0, slots := 0, locals := 12 } : Room).slots (s₁.setTop (entryFrame m #[(.ref r0), (.int (Int32.ofNat kp)), (.int (Int32.ofNat na)), (.int (Int32.ofNat nn)), (.ref r4), (.int p5)] 12))
  rw [ef_rm2]
  have J28 : ∀ {TJ : State} {lj : List Loc} (XJ : Stand p l e ({ frames := 1, cells := 0, slots := 0, locals := 12 } : Room) s m #[(.ref r0), (.int (Int32.ofNat kp)), (.int (Int32.ofNat na)), (.int (Int32.ofNat nn)), (.ref r4), (.int p5)] below meth c TJ lj 0 0) (eJ : TJ.heap = h0) (NJ : Fr n0 lj), Goes p e below s (Qp (.int (f2_28 r0 r4 p5 n_r0 v_r0 n_r4 v_r4 kp na nn)) h0 n0) ({ frames := 1, cells := 0, slots := 0, locals := 12 } : Room).cells ({ frames := 1, cells := 0, slots := 0, locals := 12 } : Room).slots (TJ.setTop (mkF m 28 #[.val (.ref r0), .val (.int (Int32.ofNat kp)), .val (.int (Int32.ofNat na)), .val (.int (Int32.ofNat nn)), .val (.ref r4), .val (.int p5), .val (.int (if (Int32.ofNat nn) = (0 : Int32) then (0 : Int32) else (((3 : Int32) * (Int32.ofNat nn)) - (1 : Int32)))), .unset, .unset, .unset, .unset, .unset] [])) := by
    intro TJ lj XJ eJ NJ
    show Goes p e below s _ _ _ (TJ.setTop (mkF m 28 #[.val (.ref r0), .val (.int (Int32.ofNat kp)), .val (.int (Int32.ofNat na)), .val (.int (Int32.ofNat nn)), .val (.ref r4), .val (.int p5), .val (.int (if (Int32.ofNat nn) = (0 : Int32) then (0 : Int32) else (((3 : Int32) * (Int32.ofNat nn)) - (1 : Int32)))), .unset, .unset, .unset, .unset, .unset] []))
    refine Goes.go (fun _ kst => XS.iload XJ.here hx rfl (hb hby d2_28) rfl  kst) ?_
    show Goes p e below s _ _ _ (TJ.setTop (mkF m 30 #[.val (.ref r0), .val (.int (Int32.ofNat kp)), .val (.int (Int32.ofNat na)), .val (.int (Int32.ofNat nn)), .val (.ref r4), .val (.int p5), .val (.int (if (Int32.ofNat nn) = (0 : Int32) then (0 : Int32) else (((3 : Int32) * (Int32.ofNat nn)) - (1 : Int32)))), .unset, .unset, .unset, .unset, .unset] [(.int p5)]))
    refine Goes.go (fun _ kst => XS.istore XJ.here hx rfl (hb hby d2_30) rfl (l' := #[.val (.ref r0), .val (.int (Int32.ofNat kp)), .val (.int (Int32.ofNat na)), .val (.int (Int32.ofNat nn)), .val (.ref r4), .val (.int p5), .val (.int (if (Int32.ofNat nn) = (0 : Int32) then (0 : Int32) else (((3 : Int32) * (Int32.ofNat nn)) - (1 : Int32)))), .val (.int p5), .unset, .unset, .unset, .unset]) rfl kst) ?_
    show Goes p e below s _ _ _ (TJ.setTop (mkF m 32 #[.val (.ref r0), .val (.int (Int32.ofNat kp)), .val (.int (Int32.ofNat na)), .val (.int (Int32.ofNat nn)), .val (.ref r4), .val (.int p5), .val (.int (if (Int32.ofNat nn) = (0 : Int32) then (0 : Int32) else (((3 : Int32) * (Int32.ofNat nn)) - (1 : Int32)))), .val (.int p5), .unset, .unset, .unset, .unset] []))
    refine Goes.go (fun _ kst => XS.goto XJ.here hx rfl (pc0 := 32) (pc' := 103) rfl (hb hby d2_32) (by decide) (by decide) kst) ?_
    show Goes p e below s _ _ _ (TJ.setTop (mkF m 103 #[.val (.ref r0), .val (.int (Int32.ofNat kp)), .val (.int (Int32.ofNat na)), .val (.int (Int32.ofNat nn)), .val (.ref r4), .val (.int p5), .val (.int (if (Int32.ofNat nn) = (0 : Int32) then (0 : Int32) else (((3 : Int32) * (Int32.ofNat nn)) - (1 : Int32)))), .val (.int p5), .unset, .unset, .unset, .unset] []))
    refine Goes.go (fun _ kst => XS.aloadN XJ.here hx rfl (hb hby d2_103) rfl rfl  kst) ?_
    show Goes p e below s _ _ _ (TJ.setTop (mkF m 104 #[.val (.ref r0), .val (.int (Int32.ofNat kp)), .val (.int (Int32.ofNat na)), .val (.int (Int32.ofNat nn)), .val (.ref r4), .val (.int p5), .val (.int (if (Int32.ofNat nn) = (0 : Int32) then (0 : Int32) else (((3 : Int32) * (Int32.ofNat nn)) - (1 : Int32)))), .val (.int p5), .unset, .unset, .unset, .unset] [(.ref r0)]))
    refine Goes.go (fun _ kst => XS.iloadN XJ.here hx rfl (hb hby d2_104) rfl  kst) ?_
    show Goes p e below s _ _ _ (TJ.setTop (mkF m 105 #[.val (.ref r0), .val (.int (Int32.ofNat kp)), .val (.int (Int32.ofNat na)), .val (.int (Int32.ofNat nn)), .val (.ref r4), .val (.int p5), .val (.int (if (Int32.ofNat nn) = (0 : Int32) then (0 : Int32) else (((3 : Int32) * (Int32.ofNat nn)) - (1 : Int32)))), .val (.int p5), .unset, .unset, .unset, .unset] [(.int (Int32.ofNat kp)), (.ref r0)]))
    refine Goes.go (own_ldB XJ hx hZ eJ A_r0 (i := kp) rfl (by rw [hnt]; exact hkp) (g := (mkF m 105 #[.val (.ref r0), .val (.int (Int32.ofNat kp)), .val (.int (Int32.ofNat na)), .val (.int (Int32.ofNat nn)), .val (.ref r4), .val (.int p5), .val (.int (if (Int32.ofNat nn) = (0 : Int32) then (0 : Int32) else (((3 : Int32) * (Int32.ofNat nn)) - (1 : Int32)))), .val (.int p5), .unset, .unset, .unset, .unset] [(.int (Int32.ofNat kp)), (.ref r0)])) rfl rfl (hb hby d2_105)) ?_
    show Goes p e below s _ _ _ (TJ.setTop (mkF m 106 #[.val (.ref r0), .val (.int (Int32.ofNat kp)), .val (.int (Int32.ofNat na)), .val (.int (Int32.ofNat nn)), .val (.ref r4), .val (.int p5), .val (.int (if (Int32.ofNat nn) = (0 : Int32) then (0 : Int32) else (((3 : Int32) * (Int32.ofNat nn)) - (1 : Int32)))), .val (.int p5), .unset, .unset, .unset, .unset] [(.int (v_r0 kp))]))
    refine Goes.go (fun _ kst => XS.iload XJ.here hx rfl (hb hby d2_106) rfl  kst) ?_
    show Goes p e below s _ _ _ (TJ.setTop (mkF m 108 #[.val (.ref r0), .val (.int (Int32.ofNat kp)), .val (.int (Int32.ofNat na)), .val (.int (Int32.ofNat nn)), .val (.ref r4), .val (.int p5), .val (.int (if (Int32.ofNat nn) = (0 : Int32) then (0 : Int32) else (((3 : Int32) * (Int32.ofNat nn)) - (1 : Int32)))), .val (.int p5), .unset, .unset, .unset, .unset] [(.int p5), (.int (v_r0 kp))]))
    refine Goes.go (fun _ kst => XS.i2b XJ.here hx rfl (hb hby d2_108) rfl kst) ?_
    show Goes p e below s _ _ _ (TJ.setTop (mkF m 109 #[.val (.ref r0), .val (.int (Int32.ofNat kp)), .val (.int (Int32.ofNat na)), .val (.int (Int32.ofNat nn)), .val (.ref r4), .val (.int p5), .val (.int (if (Int32.ofNat nn) = (0 : Int32) then (0 : Int32) else (((3 : Int32) * (Int32.ofNat nn)) - (1 : Int32)))), .val (.int p5), .unset, .unset, .unset, .unset] [(.int (p5.toInt8.toInt32)), (.int (v_r0 kp))]))
    have sm1 : ∀ t, Steps p.tables e below (TJ.setTop (mkF m 117 #[.val (.ref r0), .val (.int (Int32.ofNat kp)), .val (.int (Int32.ofNat na)), .val (.int (Int32.ofNat nn)), .val (.ref r4), .val (.int p5), .val (.int (if (Int32.ofNat nn) = (0 : Int32) then (0 : Int32) else (((3 : Int32) * (Int32.ofNat nn)) - (1 : Int32)))), .val (.int p5), .unset, .unset, .unset, .unset] [(.int (if (v_r0 kp) = (p5.toInt8.toInt32) then (1 : Int32) else (0 : Int32)))])) t → Steps p.tables e below (TJ.setTop (mkF m 109 #[.val (.ref r0), .val (.int (Int32.ofNat kp)), .val (.int (Int32.ofNat na)), .val (.int (Int32.ofNat nn)), .val (.ref r4), .val (.int p5), .val (.int (if (Int32.ofNat nn) = (0 : Int32) then (0 : Int32) else (((3 : Int32) * (Int32.ofNat nn)) - (1 : Int32)))), .val (.int p5), .unset, .unset, .unset, .unset] [(.int (p5.toInt8.toInt32)), (.int (v_r0 kp))])) t := by
      intro t kst
      by_cases hc109_1 : (v_r0 kp) = (p5.toInt8.toInt32)
      · have kst2 : Steps p.tables e below (TJ.setTop (mkF m 117 #[.val (.ref r0), .val (.int (Int32.ofNat kp)), .val (.int (Int32.ofNat na)), .val (.int (Int32.ofNat nn)), .val (.ref r4), .val (.int p5), .val (.int (if (Int32.ofNat nn) = (0 : Int32) then (0 : Int32) else (((3 : Int32) * (Int32.ofNat nn)) - (1 : Int32)))), .val (.int p5), .unset, .unset, .unset, .unset] [(.int (1 : Int32))])) t := by simpa only [if_pos hc109_1] using kst
        show Steps p.tables e below (TJ.setTop (mkF m 109 #[.val (.ref r0), .val (.int (Int32.ofNat kp)), .val (.int (Int32.ofNat na)), .val (.int (Int32.ofNat nn)), .val (.ref r4), .val (.int p5), .val (.int (if (Int32.ofNat nn) = (0 : Int32) then (0 : Int32) else (((3 : Int32) * (Int32.ofNat nn)) - (1 : Int32)))), .val (.int p5), .unset, .unset, .unset, .unset] [(.int (p5.toInt8.toInt32)), (.int (v_r0 kp))])) _
        refine XS.icmpNo XJ.here hx rfl (hb hby d2_109) rfl (teq hc109_1).2 ?_
        show Steps p.tables e below (TJ.setTop (mkF m 112 #[.val (.ref r0), .val (.int (Int32.ofNat kp)), .val (.int (Int32.ofNat na)), .val (.int (Int32.ofNat nn)), .val (.ref r4), .val (.int p5), .val (.int (if (Int32.ofNat nn) = (0 : Int32) then (0 : Int32) else (((3 : Int32) * (Int32.ofNat nn)) - (1 : Int32)))), .val (.int p5), .unset, .unset, .unset, .unset] [])) _
        refine XS.iconst XJ.here hx rfl (hb hby d2_112) ?_
        show Steps p.tables e below (TJ.setTop (mkF m 113 #[.val (.ref r0), .val (.int (Int32.ofNat kp)), .val (.int (Int32.ofNat na)), .val (.int (Int32.ofNat nn)), .val (.ref r4), .val (.int p5), .val (.int (if (Int32.ofNat nn) = (0 : Int32) then (0 : Int32) else (((3 : Int32) * (Int32.ofNat nn)) - (1 : Int32)))), .val (.int p5), .unset, .unset, .unset, .unset] [(.int (1 : Int32))])) _
        refine XS.goto XJ.here hx rfl (pc0 := 113) (pc' := 117) rfl (hb hby d2_113) (by decide) (by decide) ?_
        exact kst2
      · have kst2 : Steps p.tables e below (TJ.setTop (mkF m 117 #[.val (.ref r0), .val (.int (Int32.ofNat kp)), .val (.int (Int32.ofNat na)), .val (.int (Int32.ofNat nn)), .val (.ref r4), .val (.int p5), .val (.int (if (Int32.ofNat nn) = (0 : Int32) then (0 : Int32) else (((3 : Int32) * (Int32.ofNat nn)) - (1 : Int32)))), .val (.int p5), .unset, .unset, .unset, .unset] [(.int (0 : Int32))])) t := by simpa only [if_neg hc109_1] using kst
        show Steps p.tables e below (TJ.setTop (mkF m 109 #[.val (.ref r0), .val (.int (Int32.ofNat kp)), .val (.int (Int32.ofNat na)), .val (.int (Int32.ofNat nn)), .val (.ref r4), .val (.int p5), .val (.int (if (Int32.ofNat nn) = (0 : Int32) then (0 : Int32) else (((3 : Int32) * (Int32.ofNat nn)) - (1 : Int32)))), .val (.int p5), .unset, .unset, .unset, .unset] [(.int (p5.toInt8.toInt32)), (.int (v_r0 kp))])) _
        refine XS.icmpYes XJ.here hx rfl (pc0 := 109) (pc' := 116) rfl (hb hby d2_109) rfl (feq hc109_1).2 (by decide) (by decide) ?_
        show Steps p.tables e below (TJ.setTop (mkF m 116 #[.val (.ref r0), .val (.int (Int32.ofNat kp)), .val (.int (Int32.ofNat na)), .val (.int (Int32.ofNat nn)), .val (.ref r4), .val (.int p5), .val (.int (if (Int32.ofNat nn) = (0 : Int32) then (0 : Int32) else (((3 : Int32) * (Int32.ofNat nn)) - (1 : Int32)))), .val (.int p5), .unset, .unset, .unset, .unset] [])) _
        refine XS.iconst XJ.here hx rfl (hb hby d2_116) ?_
        exact kst2
    refine Goes.go sm1 ?_
    show Goes p e below s _ _ _ (TJ.setTop (mkF m 117 #[.val (.ref r0), .val (.int (Int32.ofNat kp)), .val (.int (Int32.ofNat na)), .val (.int (Int32.ofNat nn)), .val (.ref r4), .val (.int p5), .val (.int (if (Int32.ofNat nn) = (0 : Int32) then (0 : Int32) else (((3 : Int32) * (Int32.ofNat nn)) - (1 : Int32)))), .val (.int p5), .unset, .unset, .unset, .unset] [(.int (if (v_r0 kp) = (p5.toInt8.toInt32) then (1 : Int32) else (0 : Int32)))]))
    refine Goes.retN .boolean XJ hx hlk Bd.returns (by simp) (hb hby d2_117) ?_ (by decide) (by decide)
    exact ⟨by rfl, NJ, eJ⟩
  show Goes p e below s _ _ _ (s₁.setTop (mkF m 0 #[.val (.ref r0), .val (.int (Int32.ofNat kp)), .val (.int (Int32.ofNat na)), .val (.int (Int32.ofNat nn)), .val (.ref r4), .val (.int p5), .unset, .unset, .unset, .unset, .unset, .unset] []))
  refine Goes.go (fun _ kst => XS.iloadN X0.here hx rfl (hb hby d2_0) rfl  kst) ?_
  show Goes p e below s _ _ _ (s₁.setTop (mkF m 1 #[.val (.ref r0), .val (.int (Int32.ofNat kp)), .val (.int (Int32.ofNat na)), .val (.int (Int32.ofNat nn)), .val (.ref r4), .val (.int p5), .unset, .unset, .unset, .unset, .unset, .unset] [(.int (Int32.ofNat nn))]))
  have sm2 : ∀ t, Steps p.tables e below (s₁.setTop (mkF m 13 #[.val (.ref r0), .val (.int (Int32.ofNat kp)), .val (.int (Int32.ofNat na)), .val (.int (Int32.ofNat nn)), .val (.ref r4), .val (.int p5), .unset, .unset, .unset, .unset, .unset, .unset] [(.int (if (Int32.ofNat nn) = (0 : Int32) then (0 : Int32) else (((3 : Int32) * (Int32.ofNat nn)) - (1 : Int32))))])) t → Steps p.tables e below (s₁.setTop (mkF m 1 #[.val (.ref r0), .val (.int (Int32.ofNat kp)), .val (.int (Int32.ofNat na)), .val (.int (Int32.ofNat nn)), .val (.ref r4), .val (.int p5), .unset, .unset, .unset, .unset, .unset, .unset] [(.int (Int32.ofNat nn))])) t := by
    intro t kst
    by_cases hc1_2 : (Int32.ofNat nn) = (0 : Int32)
    · have kst2 : Steps p.tables e below (s₁.setTop (mkF m 13 #[.val (.ref r0), .val (.int (Int32.ofNat kp)), .val (.int (Int32.ofNat na)), .val (.int (Int32.ofNat nn)), .val (.ref r4), .val (.int p5), .unset, .unset, .unset, .unset, .unset, .unset] [(.int (0 : Int32))])) t := by simpa only [if_pos hc1_2] using kst
      show Steps p.tables e below (s₁.setTop (mkF m 1 #[.val (.ref r0), .val (.int (Int32.ofNat kp)), .val (.int (Int32.ofNat na)), .val (.int (Int32.ofNat nn)), .val (.ref r4), .val (.int p5), .unset, .unset, .unset, .unset, .unset, .unset] [(.int (Int32.ofNat nn))])) _
      refine XS.ifNo X0.here hx rfl (hb hby d2_1) rfl ((if0 _ _).trans (teq hc1_2).2) ?_
      show Steps p.tables e below (s₁.setTop (mkF m 4 #[.val (.ref r0), .val (.int (Int32.ofNat kp)), .val (.int (Int32.ofNat na)), .val (.int (Int32.ofNat nn)), .val (.ref r4), .val (.int p5), .unset, .unset, .unset, .unset, .unset, .unset] [])) _
      refine XS.iconst X0.here hx rfl (hb hby d2_4) ?_
      show Steps p.tables e below (s₁.setTop (mkF m 5 #[.val (.ref r0), .val (.int (Int32.ofNat kp)), .val (.int (Int32.ofNat na)), .val (.int (Int32.ofNat nn)), .val (.ref r4), .val (.int p5), .unset, .unset, .unset, .unset, .unset, .unset] [(.int (0 : Int32))])) _
      refine XS.goto X0.here hx rfl (pc0 := 5) (pc' := 13) rfl (hb hby d2_5) (by decide) (by decide) ?_
      exact kst2
    · have kst2 : Steps p.tables e below (s₁.setTop (mkF m 13 #[.val (.ref r0), .val (.int (Int32.ofNat kp)), .val (.int (Int32.ofNat na)), .val (.int (Int32.ofNat nn)), .val (.ref r4), .val (.int p5), .unset, .unset, .unset, .unset, .unset, .unset] [(.int (((3 : Int32) * (Int32.ofNat nn)) - (1 : Int32)))])) t := by simpa only [if_neg hc1_2] using kst
      show Steps p.tables e below (s₁.setTop (mkF m 1 #[.val (.ref r0), .val (.int (Int32.ofNat kp)), .val (.int (Int32.ofNat na)), .val (.int (Int32.ofNat nn)), .val (.ref r4), .val (.int p5), .unset, .unset, .unset, .unset, .unset, .unset] [(.int (Int32.ofNat nn))])) _
      refine XS.ifYes X0.here hx rfl (pc0 := 1) (pc' := 8) rfl (hb hby d2_1) rfl ((if0 _ _).trans (feq hc1_2).2) (by decide) (by decide) ?_
      show Steps p.tables e below (s₁.setTop (mkF m 8 #[.val (.ref r0), .val (.int (Int32.ofNat kp)), .val (.int (Int32.ofNat na)), .val (.int (Int32.ofNat nn)), .val (.ref r4), .val (.int p5), .unset, .unset, .unset, .unset, .unset, .unset] [])) _
      refine XS.iconst X0.here hx rfl (hb hby d2_8) ?_
      show Steps p.tables e below (s₁.setTop (mkF m 9 #[.val (.ref r0), .val (.int (Int32.ofNat kp)), .val (.int (Int32.ofNat na)), .val (.int (Int32.ofNat nn)), .val (.ref r4), .val (.int p5), .unset, .unset, .unset, .unset, .unset, .unset] [(.int (3 : Int32))])) _
      refine XS.iloadN X0.here hx rfl (hb hby d2_9) rfl  ?_
      show Steps p.tables e below (s₁.setTop (mkF m 10 #[.val (.ref r0), .val (.int (Int32.ofNat kp)), .val (.int (Int32.ofNat na)), .val (.int (Int32.ofNat nn)), .val (.ref r4), .val (.int p5), .unset, .unset, .unset, .unset, .unset, .unset] [(.int (Int32.ofNat nn)), (.int (3 : Int32))])) _
      refine XS.imul X0.here hx rfl (hb hby d2_10) rfl ?_
      show Steps p.tables e below (s₁.setTop (mkF m 11 #[.val (.ref r0), .val (.int (Int32.ofNat kp)), .val (.int (Int32.ofNat na)), .val (.int (Int32.ofNat nn)), .val (.ref r4), .val (.int p5), .unset, .unset, .unset, .unset, .unset, .unset] [(.int ((3 : Int32) * (Int32.ofNat nn)))])) _
      refine XS.iconst X0.here hx rfl (hb hby d2_11) ?_
      show Steps p.tables e below (s₁.setTop (mkF m 12 #[.val (.ref r0), .val (.int (Int32.ofNat kp)), .val (.int (Int32.ofNat na)), .val (.int (Int32.ofNat nn)), .val (.ref r4), .val (.int p5), .unset, .unset, .unset, .unset, .unset, .unset] [(.int (1 : Int32)), (.int ((3 : Int32) * (Int32.ofNat nn)))])) _
      refine XS.isub X0.here hx rfl (hb hby d2_12) rfl ?_
      exact kst2
  refine Goes.go sm2 ?_
  show Goes p e below s _ _ _ (s₁.setTop (mkF m 13 #[.val (.ref r0), .val (.int (Int32.ofNat kp)), .val (.int (Int32.ofNat na)), .val (.int (Int32.ofNat nn)), .val (.ref r4), .val (.int p5), .unset, .unset, .unset, .unset, .unset, .unset] [(.int (if (Int32.ofNat nn) = (0 : Int32) then (0 : Int32) else (((3 : Int32) * (Int32.ofNat nn)) - (1 : Int32))))]))
  refine Goes.go (fun _ kst => XS.istore X0.here hx rfl (hb hby d2_13) rfl (l' := #[.val (.ref r0), .val (.int (Int32.ofNat kp)), .val (.int (Int32.ofNat na)), .val (.int (Int32.ofNat nn)), .val (.ref r4), .val (.int p5), .val (.int (if (Int32.ofNat nn) = (0 : Int32) then (0 : Int32) else (((3 : Int32) * (Int32.ofNat nn)) - (1 : Int32)))), .unset, .unset, .unset, .unset, .unset]) rfl kst) ?_
  show Goes p e below s _ _ _ (s₁.setTop (mkF m 15 #[.val (.ref r0), .val (.int (Int32.ofNat kp)), .val (.int (Int32.ofNat na)), .val (.int (Int32.ofNat nn)), .val (.ref r4), .val (.int p5), .val (.int (if (Int32.ofNat nn) = (0 : Int32) then (0 : Int32) else (((3 : Int32) * (Int32.ofNat nn)) - (1 : Int32)))), .unset, .unset, .unset, .unset, .unset] []))
  refine Goes.go (fun _ kst => XS.iloadN X0.here hx rfl (hb hby d2_15) rfl  kst) ?_
  show Goes p e below s _ _ _ (s₁.setTop (mkF m 16 #[.val (.ref r0), .val (.int (Int32.ofNat kp)), .val (.int (Int32.ofNat na)), .val (.int (Int32.ofNat nn)), .val (.ref r4), .val (.int p5), .val (.int (if (Int32.ofNat nn) = (0 : Int32) then (0 : Int32) else (((3 : Int32) * (Int32.ofNat nn)) - (1 : Int32)))), .unset, .unset, .unset, .unset, .unset] [(.int (Int32.ofNat kp))]))
  refine Goes.go (fun _ kst => XS.iloadN X0.here hx rfl (hb hby d2_16) rfl  kst) ?_
  show Goes p e below s _ _ _ (s₁.setTop (mkF m 17 #[.val (.ref r0), .val (.int (Int32.ofNat kp)), .val (.int (Int32.ofNat na)), .val (.int (Int32.ofNat nn)), .val (.ref r4), .val (.int p5), .val (.int (if (Int32.ofNat nn) = (0 : Int32) then (0 : Int32) else (((3 : Int32) * (Int32.ofNat nn)) - (1 : Int32)))), .unset, .unset, .unset, .unset, .unset] [(.int (Int32.ofNat na)), (.int (Int32.ofNat kp))]))
  by_cases hc17_3 : (Int32.ofNat kp) < (Int32.ofNat na)
  · skip
    refine Goes.qi (if_pos hc17_3) ?_
    refine Goes.go (fun _ kst => XS.icmpYes X0.here hx rfl (pc0 := 17) (pc' := 28) rfl (hb hby d2_17) rfl (tlt hc17_3).1 (by decide) (by decide) kst) ?_
    exact J28 X0 e0 N0
  · skip
    refine Goes.qi (if_neg hc17_3) ?_
    refine Goes.go (fun _ kst => XS.icmpNo X0.here hx rfl (hb hby d2_17) rfl (flt hc17_3).1 kst) ?_
    show Goes p e below s _ _ _ (s₁.setTop (mkF m 20 #[.val (.ref r0), .val (.int (Int32.ofNat kp)), .val (.int (Int32.ofNat na)), .val (.int (Int32.ofNat nn)), .val (.ref r4), .val (.int p5), .val (.int (if (Int32.ofNat nn) = (0 : Int32) then (0 : Int32) else (((3 : Int32) * (Int32.ofNat nn)) - (1 : Int32)))), .unset, .unset, .unset, .unset, .unset] []))
    refine Goes.go (fun _ kst => XS.iloadN X0.here hx rfl (hb hby d2_20) rfl  kst) ?_
    show Goes p e below s _ _ _ (s₁.setTop (mkF m 21 #[.val (.ref r0), .val (.int (Int32.ofNat kp)), .val (.int (Int32.ofNat na)), .val (.int (Int32.ofNat nn)), .val (.ref r4), .val (.int p5), .val (.int (if (Int32.ofNat nn) = (0 : Int32) then (0 : Int32) else (((3 : Int32) * (Int32.ofNat nn)) - (1 : Int32)))), .unset, .unset, .unset, .unset, .unset] [(.int (Int32.ofNat kp))]))
    refine Goes.go (fun _ kst => XS.iloadN X0.here hx rfl (hb hby d2_21) rfl  kst) ?_
    show Goes p e below s _ _ _ (s₁.setTop (mkF m 22 #[.val (.ref r0), .val (.int (Int32.ofNat kp)), .val (.int (Int32.ofNat na)), .val (.int (Int32.ofNat nn)), .val (.ref r4), .val (.int p5), .val (.int (if (Int32.ofNat nn) = (0 : Int32) then (0 : Int32) else (((3 : Int32) * (Int32.ofNat nn)) - (1 : Int32)))), .unset, .unset, .unset, .unset, .unset] [(.int (Int32.ofNat na)), (.int (Int32.ofNat kp))]))
    refine Goes.go (fun _ kst => XS.iload X0.here hx rfl (hb hby d2_22) rfl  kst) ?_
    show Goes p e below s _ _ _ (s₁.setTop (mkF m 24 #[.val (.ref r0), .val (.int (Int32.ofNat kp)), .val (.int (Int32.ofNat na)), .val (.int (Int32.ofNat nn)), .val (.ref r4), .val (.int p5), .val (.int (if (Int32.ofNat nn) = (0 : Int32) then (0 : Int32) else (((3 : Int32) * (Int32.ofNat nn)) - (1 : Int32)))), .unset, .unset, .unset, .unset, .unset] [(.int (if (Int32.ofNat nn) = (0 : Int32) then (0 : Int32) else (((3 : Int32) * (Int32.ofNat nn)) - (1 : Int32)))), (.int (Int32.ofNat na)), (.int (Int32.ofNat kp))]))
    refine Goes.go (fun _ kst => XS.iadd X0.here hx rfl (hb hby d2_24) rfl kst) ?_
    show Goes p e below s _ _ _ (s₁.setTop (mkF m 25 #[.val (.ref r0), .val (.int (Int32.ofNat kp)), .val (.int (Int32.ofNat na)), .val (.int (Int32.ofNat nn)), .val (.ref r4), .val (.int p5), .val (.int (if (Int32.ofNat nn) = (0 : Int32) then (0 : Int32) else (((3 : Int32) * (Int32.ofNat nn)) - (1 : Int32)))), .unset, .unset, .unset, .unset, .unset] [(.int ((Int32.ofNat na) + (if (Int32.ofNat nn) = (0 : Int32) then (0 : Int32) else (((3 : Int32) * (Int32.ofNat nn)) - (1 : Int32))))), (.int (Int32.ofNat kp))]))
    by_cases hc25_4 : (Int32.ofNat kp) < ((Int32.ofNat na) + (if (Int32.ofNat nn) = (0 : Int32) then (0 : Int32) else (((3 : Int32) * (Int32.ofNat nn)) - (1 : Int32))))
    · skip
      refine Goes.qi (if_pos hc25_4) ?_
      refine Goes.go (fun _ kst => XS.icmpYes X0.here hx rfl (pc0 := 25) (pc' := 35) rfl (hb hby d2_25) rfl (tlt hc25_4).1 (by decide) (by decide) kst) ?_
      show Goes p e below s _ _ _ (s₁.setTop (mkF m 35 #[.val (.ref r0), .val (.int (Int32.ofNat kp)), .val (.int (Int32.ofNat na)), .val (.int (Int32.ofNat nn)), .val (.ref r4), .val (.int p5), .val (.int (if (Int32.ofNat nn) = (0 : Int32) then (0 : Int32) else (((3 : Int32) * (Int32.ofNat nn)) - (1 : Int32)))), .unset, .unset, .unset, .unset, .unset] []))
      refine Goes.go (fun _ kst => XS.iloadN X0.here hx rfl (hb hby d2_35) rfl  kst) ?_
      show Goes p e below s _ _ _ (s₁.setTop (mkF m 36 #[.val (.ref r0), .val (.int (Int32.ofNat kp)), .val (.int (Int32.ofNat na)), .val (.int (Int32.ofNat nn)), .val (.ref r4), .val (.int p5), .val (.int (if (Int32.ofNat nn) = (0 : Int32) then (0 : Int32) else (((3 : Int32) * (Int32.ofNat nn)) - (1 : Int32)))), .unset, .unset, .unset, .unset, .unset] [(.int (Int32.ofNat kp))]))
      refine Goes.go (fun _ kst => XS.iloadN X0.here hx rfl (hb hby d2_36) rfl  kst) ?_
      show Goes p e below s _ _ _ (s₁.setTop (mkF m 37 #[.val (.ref r0), .val (.int (Int32.ofNat kp)), .val (.int (Int32.ofNat na)), .val (.int (Int32.ofNat nn)), .val (.ref r4), .val (.int p5), .val (.int (if (Int32.ofNat nn) = (0 : Int32) then (0 : Int32) else (((3 : Int32) * (Int32.ofNat nn)) - (1 : Int32)))), .unset, .unset, .unset, .unset, .unset] [(.int (Int32.ofNat na)), (.int (Int32.ofNat kp))]))
      refine Goes.go (fun _ kst => XS.isub X0.here hx rfl (hb hby d2_37) rfl kst) ?_
      show Goes p e below s _ _ _ (s₁.setTop (mkF m 38 #[.val (.ref r0), .val (.int (Int32.ofNat kp)), .val (.int (Int32.ofNat na)), .val (.int (Int32.ofNat nn)), .val (.ref r4), .val (.int p5), .val (.int (if (Int32.ofNat nn) = (0 : Int32) then (0 : Int32) else (((3 : Int32) * (Int32.ofNat nn)) - (1 : Int32)))), .unset, .unset, .unset, .unset, .unset] [(.int ((Int32.ofNat kp) - (Int32.ofNat na)))]))
      refine Goes.go (fun _ kst => XS.istore X0.here hx rfl (hb hby d2_38) rfl (l' := #[.val (.ref r0), .val (.int (Int32.ofNat kp)), .val (.int (Int32.ofNat na)), .val (.int (Int32.ofNat nn)), .val (.ref r4), .val (.int p5), .val (.int (if (Int32.ofNat nn) = (0 : Int32) then (0 : Int32) else (((3 : Int32) * (Int32.ofNat nn)) - (1 : Int32)))), .unset, .val (.int ((Int32.ofNat kp) - (Int32.ofNat na))), .unset, .unset, .unset]) rfl kst) ?_
      show Goes p e below s _ _ _ (s₁.setTop (mkF m 40 #[.val (.ref r0), .val (.int (Int32.ofNat kp)), .val (.int (Int32.ofNat na)), .val (.int (Int32.ofNat nn)), .val (.ref r4), .val (.int p5), .val (.int (if (Int32.ofNat nn) = (0 : Int32) then (0 : Int32) else (((3 : Int32) * (Int32.ofNat nn)) - (1 : Int32)))), .unset, .val (.int ((Int32.ofNat kp) - (Int32.ofNat na))), .unset, .unset, .unset] []))
      refine Goes.go (fun _ kst => XS.iload X0.here hx rfl (hb hby d2_40) rfl  kst) ?_
      show Goes p e below s _ _ _ (s₁.setTop (mkF m 42 #[.val (.ref r0), .val (.int (Int32.ofNat kp)), .val (.int (Int32.ofNat na)), .val (.int (Int32.ofNat nn)), .val (.ref r4), .val (.int p5), .val (.int (if (Int32.ofNat nn) = (0 : Int32) then (0 : Int32) else (((3 : Int32) * (Int32.ofNat nn)) - (1 : Int32)))), .unset, .val (.int ((Int32.ofNat kp) - (Int32.ofNat na))), .unset, .unset, .unset] [(.int ((Int32.ofNat kp) - (Int32.ofNat na)))]))
      refine Goes.go (fun _ kst => XS.iconst X0.here hx rfl (hb hby d2_42) kst) ?_
      show Goes p e below s _ _ _ (s₁.setTop (mkF m 43 #[.val (.ref r0), .val (.int (Int32.ofNat kp)), .val (.int (Int32.ofNat na)), .val (.int (Int32.ofNat nn)), .val (.ref r4), .val (.int p5), .val (.int (if (Int32.ofNat nn) = (0 : Int32) then (0 : Int32) else (((3 : Int32) * (Int32.ofNat nn)) - (1 : Int32)))), .unset, .val (.int ((Int32.ofNat kp) - (Int32.ofNat na))), .unset, .unset, .unset] [(.int (3 : Int32)), (.int ((Int32.ofNat kp) - (Int32.ofNat na)))]))
      refine Goes.go (fun _ kst => XS.idiv X0.here hx rfl (hb hby d2_43) rfl (by decide) kst) ?_
      show Goes p e below s _ _ _ (s₁.setTop (mkF m 44 #[.val (.ref r0), .val (.int (Int32.ofNat kp)), .val (.int (Int32.ofNat na)), .val (.int (Int32.ofNat nn)), .val (.ref r4), .val (.int p5), .val (.int (if (Int32.ofNat nn) = (0 : Int32) then (0 : Int32) else (((3 : Int32) * (Int32.ofNat nn)) - (1 : Int32)))), .unset, .val (.int ((Int32.ofNat kp) - (Int32.ofNat na))), .unset, .unset, .unset] [(.int (((Int32.ofNat kp) - (Int32.ofNat na)) / (3 : Int32)))]))
      refine Goes.go (fun _ kst => XS.istore X0.here hx rfl (hb hby d2_44) rfl (l' := #[.val (.ref r0), .val (.int (Int32.ofNat kp)), .val (.int (Int32.ofNat na)), .val (.int (Int32.ofNat nn)), .val (.ref r4), .val (.int p5), .val (.int (if (Int32.ofNat nn) = (0 : Int32) then (0 : Int32) else (((3 : Int32) * (Int32.ofNat nn)) - (1 : Int32)))), .unset, .val (.int ((Int32.ofNat kp) - (Int32.ofNat na))), .val (.int (((Int32.ofNat kp) - (Int32.ofNat na)) / (3 : Int32))), .unset, .unset]) rfl kst) ?_
      show Goes p e below s _ _ _ (s₁.setTop (mkF m 46 #[.val (.ref r0), .val (.int (Int32.ofNat kp)), .val (.int (Int32.ofNat na)), .val (.int (Int32.ofNat nn)), .val (.ref r4), .val (.int p5), .val (.int (if (Int32.ofNat nn) = (0 : Int32) then (0 : Int32) else (((3 : Int32) * (Int32.ofNat nn)) - (1 : Int32)))), .unset, .val (.int ((Int32.ofNat kp) - (Int32.ofNat na))), .val (.int (((Int32.ofNat kp) - (Int32.ofNat na)) / (3 : Int32))), .unset, .unset] []))
      refine Goes.go (fun _ kst => XS.iload X0.here hx rfl (hb hby d2_46) rfl  kst) ?_
      show Goes p e below s _ _ _ (s₁.setTop (mkF m 48 #[.val (.ref r0), .val (.int (Int32.ofNat kp)), .val (.int (Int32.ofNat na)), .val (.int (Int32.ofNat nn)), .val (.ref r4), .val (.int p5), .val (.int (if (Int32.ofNat nn) = (0 : Int32) then (0 : Int32) else (((3 : Int32) * (Int32.ofNat nn)) - (1 : Int32)))), .unset, .val (.int ((Int32.ofNat kp) - (Int32.ofNat na))), .val (.int (((Int32.ofNat kp) - (Int32.ofNat na)) / (3 : Int32))), .unset, .unset] [(.int ((Int32.ofNat kp) - (Int32.ofNat na)))]))
      refine Goes.go (fun _ kst => XS.iconst X0.here hx rfl (hb hby d2_48) kst) ?_
      show Goes p e below s _ _ _ (s₁.setTop (mkF m 49 #[.val (.ref r0), .val (.int (Int32.ofNat kp)), .val (.int (Int32.ofNat na)), .val (.int (Int32.ofNat nn)), .val (.ref r4), .val (.int p5), .val (.int (if (Int32.ofNat nn) = (0 : Int32) then (0 : Int32) else (((3 : Int32) * (Int32.ofNat nn)) - (1 : Int32)))), .unset, .val (.int ((Int32.ofNat kp) - (Int32.ofNat na))), .val (.int (((Int32.ofNat kp) - (Int32.ofNat na)) / (3 : Int32))), .unset, .unset] [(.int (3 : Int32)), (.int ((Int32.ofNat kp) - (Int32.ofNat na)))]))
      refine Goes.go (fun _ kst => own_irem X0.here hx rfl (hb hby d2_49) rfl (by decide) kst) ?_
      show Goes p e below s _ _ _ (s₁.setTop (mkF m 50 #[.val (.ref r0), .val (.int (Int32.ofNat kp)), .val (.int (Int32.ofNat na)), .val (.int (Int32.ofNat nn)), .val (.ref r4), .val (.int p5), .val (.int (if (Int32.ofNat nn) = (0 : Int32) then (0 : Int32) else (((3 : Int32) * (Int32.ofNat nn)) - (1 : Int32)))), .unset, .val (.int ((Int32.ofNat kp) - (Int32.ofNat na))), .val (.int (((Int32.ofNat kp) - (Int32.ofNat na)) / (3 : Int32))), .unset, .unset] [(.int (((Int32.ofNat kp) - (Int32.ofNat na)) % (3 : Int32)))]))
      refine Goes.go (fun _ kst => XS.istore X0.here hx rfl (hb hby d2_50) rfl (l' := #[.val (.ref r0), .val (.int (Int32.ofNat kp)), .val (.int (Int32.ofNat na)), .val (.int (Int32.ofNat nn)), .val (.ref r4), .val (.int p5), .val (.int (if (Int32.ofNat nn) = (0 : Int32) then (0 : Int32) else (((3 : Int32) * (Int32.ofNat nn)) - (1 : Int32)))), .unset, .val (.int ((Int32.ofNat kp) - (Int32.ofNat na))), .val (.int (((Int32.ofNat kp) - (Int32.ofNat na)) / (3 : Int32))), .val (.int (((Int32.ofNat kp) - (Int32.ofNat na)) % (3 : Int32))), .unset]) rfl kst) ?_
      show Goes p e below s _ _ _ (s₁.setTop (mkF m 52 #[.val (.ref r0), .val (.int (Int32.ofNat kp)), .val (.int (Int32.ofNat na)), .val (.int (Int32.ofNat nn)), .val (.ref r4), .val (.int p5), .val (.int (if (Int32.ofNat nn) = (0 : Int32) then (0 : Int32) else (((3 : Int32) * (Int32.ofNat nn)) - (1 : Int32)))), .unset, .val (.int ((Int32.ofNat kp) - (Int32.ofNat na))), .val (.int (((Int32.ofNat kp) - (Int32.ofNat na)) / (3 : Int32))), .val (.int (((Int32.ofNat kp) - (Int32.ofNat na)) % (3 : Int32))), .unset] []))
      refine Goes.go (fun _ kst => XS.aload X0.here hx rfl (hb hby d2_52) rfl rfl  kst) ?_
      show Goes p e below s _ _ _ (s₁.setTop (mkF m 54 #[.val (.ref r0), .val (.int (Int32.ofNat kp)), .val (.int (Int32.ofNat na)), .val (.int (Int32.ofNat nn)), .val (.ref r4), .val (.int p5), .val (.int (if (Int32.ofNat nn) = (0 : Int32) then (0 : Int32) else (((3 : Int32) * (Int32.ofNat nn)) - (1 : Int32)))), .unset, .val (.int ((Int32.ofNat kp) - (Int32.ofNat na))), .val (.int (((Int32.ofNat kp) - (Int32.ofNat na)) / (3 : Int32))), .val (.int (((Int32.ofNat kp) - (Int32.ofNat na)) % (3 : Int32))), .unset] [(.ref r4)]))
      refine Goes.go (fun _ kst => XS.iload X0.here hx rfl (hb hby d2_54) rfl  kst) ?_
      show Goes p e below s _ _ _ (s₁.setTop (mkF m 56 #[.val (.ref r0), .val (.int (Int32.ofNat kp)), .val (.int (Int32.ofNat na)), .val (.int (Int32.ofNat nn)), .val (.ref r4), .val (.int p5), .val (.int (if (Int32.ofNat nn) = (0 : Int32) then (0 : Int32) else (((3 : Int32) * (Int32.ofNat nn)) - (1 : Int32)))), .unset, .val (.int ((Int32.ofNat kp) - (Int32.ofNat na))), .val (.int (((Int32.ofNat kp) - (Int32.ofNat na)) / (3 : Int32))), .val (.int (((Int32.ofNat kp) - (Int32.ofNat na)) % (3 : Int32))), .unset] [(.int (((Int32.ofNat kp) - (Int32.ofNat na)) / (3 : Int32))), (.ref r4)]))
      refine Goes.go (own_ldB X0 hx hZ e0 A_r4 (i := ((kp - na) / 3)) (by rw [own_sub (own_q hc17_3 hkp hna) (by omega)]; exact own_div3 (by omega)) (by have := own_ln3 hnn hkp hna hc25_4; rw [hnv]; omega) (g := (mkF m 56 #[.val (.ref r0), .val (.int (Int32.ofNat kp)), .val (.int (Int32.ofNat na)), .val (.int (Int32.ofNat nn)), .val (.ref r4), .val (.int p5), .val (.int (if (Int32.ofNat nn) = (0 : Int32) then (0 : Int32) else (((3 : Int32) * (Int32.ofNat nn)) - (1 : Int32)))), .unset, .val (.int ((Int32.ofNat kp) - (Int32.ofNat na))), .val (.int (((Int32.ofNat kp) - (Int32.ofNat na)) / (3 : Int32))), .val (.int (((Int32.ofNat kp) - (Int32.ofNat na)) % (3 : Int32))), .unset] [(.int (((Int32.ofNat kp) - (Int32.ofNat na)) / (3 : Int32))), (.ref r4)])) rfl rfl (hb hby d2_56)) ?_
      show Goes p e below s _ _ _ (s₁.setTop (mkF m 57 #[.val (.ref r0), .val (.int (Int32.ofNat kp)), .val (.int (Int32.ofNat na)), .val (.int (Int32.ofNat nn)), .val (.ref r4), .val (.int p5), .val (.int (if (Int32.ofNat nn) = (0 : Int32) then (0 : Int32) else (((3 : Int32) * (Int32.ofNat nn)) - (1 : Int32)))), .unset, .val (.int ((Int32.ofNat kp) - (Int32.ofNat na))), .val (.int (((Int32.ofNat kp) - (Int32.ofNat na)) / (3 : Int32))), .val (.int (((Int32.ofNat kp) - (Int32.ofNat na)) % (3 : Int32))), .unset] [(.int (v_r4 ((kp - na) / 3)))]))
      refine Goes.go (fun _ kst => XS.sipush X0.here hx rfl (hb hby d2_57) kst) ?_
      show Goes p e below s _ _ _ (s₁.setTop (mkF m 60 #[.val (.ref r0), .val (.int (Int32.ofNat kp)), .val (.int (Int32.ofNat na)), .val (.int (Int32.ofNat nn)), .val (.ref r4), .val (.int p5), .val (.int (if (Int32.ofNat nn) = (0 : Int32) then (0 : Int32) else (((3 : Int32) * (Int32.ofNat nn)) - (1 : Int32)))), .unset, .val (.int ((Int32.ofNat kp) - (Int32.ofNat na))), .val (.int (((Int32.ofNat kp) - (Int32.ofNat na)) / (3 : Int32))), .val (.int (((Int32.ofNat kp) - (Int32.ofNat na)) % (3 : Int32))), .unset] [(.int (255 : Int32)), (.int (v_r4 ((kp - na) / 3)))]))
      refine Goes.go (fun _ kst => XS.iand X0.here hx rfl (hb hby d2_60) rfl kst) ?_
      show Goes p e below s _ _ _ (s₁.setTop (mkF m 61 #[.val (.ref r0), .val (.int (Int32.ofNat kp)), .val (.int (Int32.ofNat na)), .val (.int (Int32.ofNat nn)), .val (.ref r4), .val (.int p5), .val (.int (if (Int32.ofNat nn) = (0 : Int32) then (0 : Int32) else (((3 : Int32) * (Int32.ofNat nn)) - (1 : Int32)))), .unset, .val (.int ((Int32.ofNat kp) - (Int32.ofNat na))), .val (.int (((Int32.ofNat kp) - (Int32.ofNat na)) / (3 : Int32))), .val (.int (((Int32.ofNat kp) - (Int32.ofNat na)) % (3 : Int32))), .unset] [(.int ((v_r4 ((kp - na) / 3)) &&& (255 : Int32)))]))
      refine Goes.go (fun _ kst => XS.istore X0.here hx rfl (hb hby d2_61) rfl (l' := #[.val (.ref r0), .val (.int (Int32.ofNat kp)), .val (.int (Int32.ofNat na)), .val (.int (Int32.ofNat nn)), .val (.ref r4), .val (.int p5), .val (.int (if (Int32.ofNat nn) = (0 : Int32) then (0 : Int32) else (((3 : Int32) * (Int32.ofNat nn)) - (1 : Int32)))), .unset, .val (.int ((Int32.ofNat kp) - (Int32.ofNat na))), .val (.int (((Int32.ofNat kp) - (Int32.ofNat na)) / (3 : Int32))), .val (.int (((Int32.ofNat kp) - (Int32.ofNat na)) % (3 : Int32))), .val (.int ((v_r4 ((kp - na) / 3)) &&& (255 : Int32)))]) rfl kst) ?_
      show Goes p e below s _ _ _ (s₁.setTop (mkF m 63 #[.val (.ref r0), .val (.int (Int32.ofNat kp)), .val (.int (Int32.ofNat na)), .val (.int (Int32.ofNat nn)), .val (.ref r4), .val (.int p5), .val (.int (if (Int32.ofNat nn) = (0 : Int32) then (0 : Int32) else (((3 : Int32) * (Int32.ofNat nn)) - (1 : Int32)))), .unset, .val (.int ((Int32.ofNat kp) - (Int32.ofNat na))), .val (.int (((Int32.ofNat kp) - (Int32.ofNat na)) / (3 : Int32))), .val (.int (((Int32.ofNat kp) - (Int32.ofNat na)) % (3 : Int32))), .val (.int ((v_r4 ((kp - na) / 3)) &&& (255 : Int32)))] []))
      refine Goes.go (fun _ kst => XS.iload X0.here hx rfl (hb hby d2_63) rfl  kst) ?_
      show Goes p e below s _ _ _ (s₁.setTop (mkF m 65 #[.val (.ref r0), .val (.int (Int32.ofNat kp)), .val (.int (Int32.ofNat na)), .val (.int (Int32.ofNat nn)), .val (.ref r4), .val (.int p5), .val (.int (if (Int32.ofNat nn) = (0 : Int32) then (0 : Int32) else (((3 : Int32) * (Int32.ofNat nn)) - (1 : Int32)))), .unset, .val (.int ((Int32.ofNat kp) - (Int32.ofNat na))), .val (.int (((Int32.ofNat kp) - (Int32.ofNat na)) / (3 : Int32))), .val (.int (((Int32.ofNat kp) - (Int32.ofNat na)) % (3 : Int32))), .val (.int ((v_r4 ((kp - na) / 3)) &&& (255 : Int32)))] [(.int (((Int32.ofNat kp) - (Int32.ofNat na)) % (3 : Int32)))]))
      by_cases hc65_5 : (((Int32.ofNat kp) - (Int32.ofNat na)) % (3 : Int32)) = (0 : Int32)
      · skip
        refine Goes.qi (if_pos hc65_5) ?_
        refine Goes.go (fun _ kst => XS.ifNo X0.here hx rfl (hb hby d2_65) rfl ((if0 _ _).trans (teq hc65_5).2) kst) ?_
        show Goes p e below s _ _ _ (s₁.setTop (mkF m 68 #[.val (.ref r0), .val (.int (Int32.ofNat kp)), .val (.int (Int32.ofNat na)), .val (.int (Int32.ofNat nn)), .val (.ref r4), .val (.int p5), .val (.int (if (Int32.ofNat nn) = (0 : Int32) then (0 : Int32) else (((3 : Int32) * (Int32.ofNat nn)) - (1 : Int32)))), .unset, .val (.int ((Int32.ofNat kp) - (Int32.ofNat na))), .val (.int (((Int32.ofNat kp) - (Int32.ofNat na)) / (3 : Int32))), .val (.int (((Int32.ofNat kp) - (Int32.ofNat na)) % (3 : Int32))), .val (.int ((v_r4 ((kp - na) / 3)) &&& (255 : Int32)))] []))
        refine Goes.go (fun _ kst => XS.iload X0.here hx rfl (hb hby d2_68) rfl  kst) ?_
        show Goes p e below s _ _ _ (s₁.setTop (mkF m 70 #[.val (.ref r0), .val (.int (Int32.ofNat kp)), .val (.int (Int32.ofNat na)), .val (.int (Int32.ofNat nn)), .val (.ref r4), .val (.int p5), .val (.int (if (Int32.ofNat nn) = (0 : Int32) then (0 : Int32) else (((3 : Int32) * (Int32.ofNat nn)) - (1 : Int32)))), .unset, .val (.int ((Int32.ofNat kp) - (Int32.ofNat na))), .val (.int (((Int32.ofNat kp) - (Int32.ofNat na)) / (3 : Int32))), .val (.int (((Int32.ofNat kp) - (Int32.ofNat na)) % (3 : Int32))), .val (.int ((v_r4 ((kp - na) / 3)) &&& (255 : Int32)))] [(.int ((v_r4 ((kp - na) / 3)) &&& (255 : Int32)))]))
        refine Goes.go (fun _ kst => XS.iconst X0.here hx rfl (hb hby d2_70) kst) ?_
        show Goes p e below s _ _ _ (s₁.setTop (mkF m 71 #[.val (.ref r0), .val (.int (Int32.ofNat kp)), .val (.int (Int32.ofNat na)), .val (.int (Int32.ofNat nn)), .val (.ref r4), .val (.int p5), .val (.int (if (Int32.ofNat nn) = (0 : Int32) then (0 : Int32) else (((3 : Int32) * (Int32.ofNat nn)) - (1 : Int32)))), .unset, .val (.int ((Int32.ofNat kp) - (Int32.ofNat na))), .val (.int (((Int32.ofNat kp) - (Int32.ofNat na)) / (3 : Int32))), .val (.int (((Int32.ofNat kp) - (Int32.ofNat na)) % (3 : Int32))), .val (.int ((v_r4 ((kp - na) / 3)) &&& (255 : Int32)))] [(.int (4 : Int32)), (.int ((v_r4 ((kp - na) / 3)) &&& (255 : Int32)))]))
        refine Goes.go (fun _ kst => XS.iushr X0.here hx rfl (hb hby d2_71) rfl kst) ?_
        show Goes p e below s _ _ _ (s₁.setTop (mkF m 72 #[.val (.ref r0), .val (.int (Int32.ofNat kp)), .val (.int (Int32.ofNat na)), .val (.int (Int32.ofNat nn)), .val (.ref r4), .val (.int p5), .val (.int (if (Int32.ofNat nn) = (0 : Int32) then (0 : Int32) else (((3 : Int32) * (Int32.ofNat nn)) - (1 : Int32)))), .unset, .val (.int ((Int32.ofNat kp) - (Int32.ofNat na))), .val (.int (((Int32.ofNat kp) - (Int32.ofNat na)) / (3 : Int32))), .val (.int (((Int32.ofNat kp) - (Int32.ofNat na)) % (3 : Int32))), .val (.int ((v_r4 ((kp - na) / 3)) &&& (255 : Int32)))] [(.int ((((v_r4 ((kp - na) / 3)) &&& (255 : Int32)).toUInt32 >>> ((4 : Int32) &&& 31).toUInt32).toInt32))]))
        obtain ⟨_, _, ⟨T6, L6, k6, n6⟩, -, X6, ⟨Lc6, hQ6, l6, y6, z6⟩, st6⟩ := Jvm.LawKit.callS X0 hx (y := (⟨"org/cardprobe/HexFormatPinLaw", "hexDigit", "(I)I"⟩ : MethodName)) hown (mvT hZ (hw _ (List.mem_of_getElem? (i := 11) rfl))) (mvT hZ (hw _ (List.mem_of_getElem? (i := 12) rfl))) (mvT hZ (hw _ (List.mem_of_getElem? (i := 7) rfl))) (mvT hZ (hw _ (List.mem_of_getElem? (i := 13) rfl))) (by decide) (backOf (W := 0) (rm3 l Z a0 hw [] ((((v_r4 ((kp - na) / 3)) &&& (255 : Int32)).toUInt32 >>> ((4 : Int32) &&& 31).toUInt32).toInt32) h0 n0 Z0 ) hZ (hw _ (List.mem_of_getElem? (i := 13) rfl)) (hw _ (List.mem_of_getElem? (i := 7) rfl)) (by decide) (by decide)) (g := (mkF m 72 #[.val (.ref r0), .val (.int (Int32.ofNat kp)), .val (.int (Int32.ofNat na)), .val (.int (Int32.ofNat nn)), .val (.ref r4), .val (.int p5), .val (.int (if (Int32.ofNat nn) = (0 : Int32) then (0 : Int32) else (((3 : Int32) * (Int32.ofNat nn)) - (1 : Int32)))), .unset, .val (.int ((Int32.ofNat kp) - (Int32.ofNat na))), .val (.int (((Int32.ofNat kp) - (Int32.ofNat na)) / (3 : Int32))), .val (.int (((Int32.ofNat kp) - (Int32.ofNat na)) % (3 : Int32))), .val (.int ((v_r4 ((kp - na) / 3)) &&& (255 : Int32)))] [(.int ((((v_r4 ((kp - na) / 3)) &&& (255 : Int32)).toUInt32 >>> ((4 : Int32) &&& 31).toUInt32).toInt32))])) rfl (by rw [hml]; rfl) (argsL := [(.int ((((v_r4 ((kp - na) / 3)) &&& (255 : Int32)).toUInt32 >>> ((4 : Int32) &&& 31).toUInt32).toInt32))]) (rest := []) (lenOf pd_0 rfl) rfl (by show 2 * 0 + _ ≤ _; exact Nat.le_of_eq rfl) (hb hby d2_72) (fun _ _ => ⟨rfl, e0, (by decide : 0 + 0 ≤ _), (by decide : 0 + 0 ≤ _)⟩)
        dsimp only [Pt.U, Pt.locs, Pt.cells, Pt.slots] at X6 l6 y6 z6 st6 hQ6
        subst l6 y6 z6
        obtain ⟨rfl, N6q, e6⟩ := hQ6
        have N6 := Fr.app N0 N6q
        refine Goes.go st6 ?_
        show Goes p e below s _ _ _ (T6.setTop (mkF m 75 #[.val (.ref r0), .val (.int (Int32.ofNat kp)), .val (.int (Int32.ofNat na)), .val (.int (Int32.ofNat nn)), .val (.ref r4), .val (.int p5), .val (.int (if (Int32.ofNat nn) = (0 : Int32) then (0 : Int32) else (((3 : Int32) * (Int32.ofNat nn)) - (1 : Int32)))), .unset, .val (.int ((Int32.ofNat kp) - (Int32.ofNat na))), .val (.int (((Int32.ofNat kp) - (Int32.ofNat na)) / (3 : Int32))), .val (.int (((Int32.ofNat kp) - (Int32.ofNat na)) % (3 : Int32))), .val (.int ((v_r4 ((kp - na) / 3)) &&& (255 : Int32)))] [(.int (f3 ((((v_r4 ((kp - na) / 3)) &&& (255 : Int32)).toUInt32 >>> ((4 : Int32) &&& 31).toUInt32).toInt32)))]))
        refine Goes.go (fun _ kst => XS.istore X6.here hx rfl (hb hby d2_75) rfl (l' := #[.val (.ref r0), .val (.int (Int32.ofNat kp)), .val (.int (Int32.ofNat na)), .val (.int (Int32.ofNat nn)), .val (.ref r4), .val (.int p5), .val (.int (if (Int32.ofNat nn) = (0 : Int32) then (0 : Int32) else (((3 : Int32) * (Int32.ofNat nn)) - (1 : Int32)))), .val (.int (f3 ((((v_r4 ((kp - na) / 3)) &&& (255 : Int32)).toUInt32 >>> ((4 : Int32) &&& 31).toUInt32).toInt32))), .val (.int ((Int32.ofNat kp) - (Int32.ofNat na))), .val (.int (((Int32.ofNat kp) - (Int32.ofNat na)) / (3 : Int32))), .val (.int (((Int32.ofNat kp) - (Int32.ofNat na)) % (3 : Int32))), .val (.int ((v_r4 ((kp - na) / 3)) &&& (255 : Int32)))]) rfl kst) ?_
        show Goes p e below s _ _ _ (T6.setTop (mkF m 77 #[.val (.ref r0), .val (.int (Int32.ofNat kp)), .val (.int (Int32.ofNat na)), .val (.int (Int32.ofNat nn)), .val (.ref r4), .val (.int p5), .val (.int (if (Int32.ofNat nn) = (0 : Int32) then (0 : Int32) else (((3 : Int32) * (Int32.ofNat nn)) - (1 : Int32)))), .val (.int (f3 ((((v_r4 ((kp - na) / 3)) &&& (255 : Int32)).toUInt32 >>> ((4 : Int32) &&& 31).toUInt32).toInt32))), .val (.int ((Int32.ofNat kp) - (Int32.ofNat na))), .val (.int (((Int32.ofNat kp) - (Int32.ofNat na)) / (3 : Int32))), .val (.int (((Int32.ofNat kp) - (Int32.ofNat na)) % (3 : Int32))), .val (.int ((v_r4 ((kp - na) / 3)) &&& (255 : Int32)))] []))
        refine Goes.go (fun _ kst => XS.goto X6.here hx rfl (pc0 := 77) (pc' := 103) rfl (hb hby d2_77) (by decide) (by decide) kst) ?_
        show Goes p e below s _ _ _ (T6.setTop (mkF m 103 #[.val (.ref r0), .val (.int (Int32.ofNat kp)), .val (.int (Int32.ofNat na)), .val (.int (Int32.ofNat nn)), .val (.ref r4), .val (.int p5), .val (.int (if (Int32.ofNat nn) = (0 : Int32) then (0 : Int32) else (((3 : Int32) * (Int32.ofNat nn)) - (1 : Int32)))), .val (.int (f3 ((((v_r4 ((kp - na) / 3)) &&& (255 : Int32)).toUInt32 >>> ((4 : Int32) &&& 31).toUInt32).toInt32))), .val (.int ((Int32.ofNat kp) - (Int32.ofNat na))), .val (.int (((Int32.ofNat kp) - (Int32.ofNat na)) / (3 : Int32))), .val (.int (((Int32.ofNat kp) - (Int32.ofNat na)) % (3 : Int32))), .val (.int ((v_r4 ((kp - na) / 3)) &&& (255 : Int32)))] []))
        refine Goes.go (fun _ kst => XS.aloadN X6.here hx rfl (hb hby d2_103) rfl rfl  kst) ?_
        show Goes p e below s _ _ _ (T6.setTop (mkF m 104 #[.val (.ref r0), .val (.int (Int32.ofNat kp)), .val (.int (Int32.ofNat na)), .val (.int (Int32.ofNat nn)), .val (.ref r4), .val (.int p5), .val (.int (if (Int32.ofNat nn) = (0 : Int32) then (0 : Int32) else (((3 : Int32) * (Int32.ofNat nn)) - (1 : Int32)))), .val (.int (f3 ((((v_r4 ((kp - na) / 3)) &&& (255 : Int32)).toUInt32 >>> ((4 : Int32) &&& 31).toUInt32).toInt32))), .val (.int ((Int32.ofNat kp) - (Int32.ofNat na))), .val (.int (((Int32.ofNat kp) - (Int32.ofNat na)) / (3 : Int32))), .val (.int (((Int32.ofNat kp) - (Int32.ofNat na)) % (3 : Int32))), .val (.int ((v_r4 ((kp - na) / 3)) &&& (255 : Int32)))] [(.ref r0)]))
        refine Goes.go (fun _ kst => XS.iloadN X6.here hx rfl (hb hby d2_104) rfl  kst) ?_
        show Goes p e below s _ _ _ (T6.setTop (mkF m 105 #[.val (.ref r0), .val (.int (Int32.ofNat kp)), .val (.int (Int32.ofNat na)), .val (.int (Int32.ofNat nn)), .val (.ref r4), .val (.int p5), .val (.int (if (Int32.ofNat nn) = (0 : Int32) then (0 : Int32) else (((3 : Int32) * (Int32.ofNat nn)) - (1 : Int32)))), .val (.int (f3 ((((v_r4 ((kp - na) / 3)) &&& (255 : Int32)).toUInt32 >>> ((4 : Int32) &&& 31).toUInt32).toInt32))), .val (.int ((Int32.ofNat kp) - (Int32.ofNat na))), .val (.int (((Int32.ofNat kp) - (Int32.ofNat na)) / (3 : Int32))), .val (.int (((Int32.ofNat kp) - (Int32.ofNat na)) % (3 : Int32))), .val (.int ((v_r4 ((kp - na) / 3)) &&& (255 : Int32)))] [(.int (Int32.ofNat kp)), (.ref r0)]))
        refine Goes.go (own_ldB X6 hx hZ e6 A_r0 (i := kp) rfl (by rw [hnt]; exact hkp) (g := (mkF m 105 #[.val (.ref r0), .val (.int (Int32.ofNat kp)), .val (.int (Int32.ofNat na)), .val (.int (Int32.ofNat nn)), .val (.ref r4), .val (.int p5), .val (.int (if (Int32.ofNat nn) = (0 : Int32) then (0 : Int32) else (((3 : Int32) * (Int32.ofNat nn)) - (1 : Int32)))), .val (.int (f3 ((((v_r4 ((kp - na) / 3)) &&& (255 : Int32)).toUInt32 >>> ((4 : Int32) &&& 31).toUInt32).toInt32))), .val (.int ((Int32.ofNat kp) - (Int32.ofNat na))), .val (.int (((Int32.ofNat kp) - (Int32.ofNat na)) / (3 : Int32))), .val (.int (((Int32.ofNat kp) - (Int32.ofNat na)) % (3 : Int32))), .val (.int ((v_r4 ((kp - na) / 3)) &&& (255 : Int32)))] [(.int (Int32.ofNat kp)), (.ref r0)])) rfl rfl (hb hby d2_105)) ?_
        show Goes p e below s _ _ _ (T6.setTop (mkF m 106 #[.val (.ref r0), .val (.int (Int32.ofNat kp)), .val (.int (Int32.ofNat na)), .val (.int (Int32.ofNat nn)), .val (.ref r4), .val (.int p5), .val (.int (if (Int32.ofNat nn) = (0 : Int32) then (0 : Int32) else (((3 : Int32) * (Int32.ofNat nn)) - (1 : Int32)))), .val (.int (f3 ((((v_r4 ((kp - na) / 3)) &&& (255 : Int32)).toUInt32 >>> ((4 : Int32) &&& 31).toUInt32).toInt32))), .val (.int ((Int32.ofNat kp) - (Int32.ofNat na))), .val (.int (((Int32.ofNat kp) - (Int32.ofNat na)) / (3 : Int32))), .val (.int (((Int32.ofNat kp) - (Int32.ofNat na)) % (3 : Int32))), .val (.int ((v_r4 ((kp - na) / 3)) &&& (255 : Int32)))] [(.int (v_r0 kp))]))
        refine Goes.go (fun _ kst => XS.iload X6.here hx rfl (hb hby d2_106) rfl  kst) ?_
        show Goes p e below s _ _ _ (T6.setTop (mkF m 108 #[.val (.ref r0), .val (.int (Int32.ofNat kp)), .val (.int (Int32.ofNat na)), .val (.int (Int32.ofNat nn)), .val (.ref r4), .val (.int p5), .val (.int (if (Int32.ofNat nn) = (0 : Int32) then (0 : Int32) else (((3 : Int32) * (Int32.ofNat nn)) - (1 : Int32)))), .val (.int (f3 ((((v_r4 ((kp - na) / 3)) &&& (255 : Int32)).toUInt32 >>> ((4 : Int32) &&& 31).toUInt32).toInt32))), .val (.int ((Int32.ofNat kp) - (Int32.ofNat na))), .val (.int (((Int32.ofNat kp) - (Int32.ofNat na)) / (3 : Int32))), .val (.int (((Int32.ofNat kp) - (Int32.ofNat na)) % (3 : Int32))), .val (.int ((v_r4 ((kp - na) / 3)) &&& (255 : Int32)))] [(.int (f3 ((((v_r4 ((kp - na) / 3)) &&& (255 : Int32)).toUInt32 >>> ((4 : Int32) &&& 31).toUInt32).toInt32))), (.int (v_r0 kp))]))
        refine Goes.go (fun _ kst => XS.i2b X6.here hx rfl (hb hby d2_108) rfl kst) ?_
        show Goes p e below s _ _ _ (T6.setTop (mkF m 109 #[.val (.ref r0), .val (.int (Int32.ofNat kp)), .val (.int (Int32.ofNat na)), .val (.int (Int32.ofNat nn)), .val (.ref r4), .val (.int p5), .val (.int (if (Int32.ofNat nn) = (0 : Int32) then (0 : Int32) else (((3 : Int32) * (Int32.ofNat nn)) - (1 : Int32)))), .val (.int (f3 ((((v_r4 ((kp - na) / 3)) &&& (255 : Int32)).toUInt32 >>> ((4 : Int32) &&& 31).toUInt32).toInt32))), .val (.int ((Int32.ofNat kp) - (Int32.ofNat na))), .val (.int (((Int32.ofNat kp) - (Int32.ofNat na)) / (3 : Int32))), .val (.int (((Int32.ofNat kp) - (Int32.ofNat na)) % (3 : Int32))), .val (.int ((v_r4 ((kp - na) / 3)) &&& (255 : Int32)))] [(.int ((f3 ((((v_r4 ((kp - na) / 3)) &&& (255 : Int32)).toUInt32 >>> ((4 : Int32) &&& 31).toUInt32).toInt32)).toInt8.toInt32)), (.int (v_r0 kp))]))
        have sm7 : ∀ t, Steps p.tables e below (T6.setTop (mkF m 117 #[.val (.ref r0), .val (.int (Int32.ofNat kp)), .val (.int (Int32.ofNat na)), .val (.int (Int32.ofNat nn)), .val (.ref r4), .val (.int p5), .val (.int (if (Int32.ofNat nn) = (0 : Int32) then (0 : Int32) else (((3 : Int32) * (Int32.ofNat nn)) - (1 : Int32)))), .val (.int (f3 ((((v_r4 ((kp - na) / 3)) &&& (255 : Int32)).toUInt32 >>> ((4 : Int32) &&& 31).toUInt32).toInt32))), .val (.int ((Int32.ofNat kp) - (Int32.ofNat na))), .val (.int (((Int32.ofNat kp) - (Int32.ofNat na)) / (3 : Int32))), .val (.int (((Int32.ofNat kp) - (Int32.ofNat na)) % (3 : Int32))), .val (.int ((v_r4 ((kp - na) / 3)) &&& (255 : Int32)))] [(.int (if (v_r0 kp) = ((f3 ((((v_r4 ((kp - na) / 3)) &&& (255 : Int32)).toUInt32 >>> ((4 : Int32) &&& 31).toUInt32).toInt32)).toInt8.toInt32) then (1 : Int32) else (0 : Int32)))])) t → Steps p.tables e below (T6.setTop (mkF m 109 #[.val (.ref r0), .val (.int (Int32.ofNat kp)), .val (.int (Int32.ofNat na)), .val (.int (Int32.ofNat nn)), .val (.ref r4), .val (.int p5), .val (.int (if (Int32.ofNat nn) = (0 : Int32) then (0 : Int32) else (((3 : Int32) * (Int32.ofNat nn)) - (1 : Int32)))), .val (.int (f3 ((((v_r4 ((kp - na) / 3)) &&& (255 : Int32)).toUInt32 >>> ((4 : Int32) &&& 31).toUInt32).toInt32))), .val (.int ((Int32.ofNat kp) - (Int32.ofNat na))), .val (.int (((Int32.ofNat kp) - (Int32.ofNat na)) / (3 : Int32))), .val (.int (((Int32.ofNat kp) - (Int32.ofNat na)) % (3 : Int32))), .val (.int ((v_r4 ((kp - na) / 3)) &&& (255 : Int32)))] [(.int ((f3 ((((v_r4 ((kp - na) / 3)) &&& (255 : Int32)).toUInt32 >>> ((4 : Int32) &&& 31).toUInt32).toInt32)).toInt8.toInt32)), (.int (v_r0 kp))])) t := by
          intro t kst
          by_cases hc109_7 : (v_r0 kp) = ((f3 ((((v_r4 ((kp - na) / 3)) &&& (255 : Int32)).toUInt32 >>> ((4 : Int32) &&& 31).toUInt32).toInt32)).toInt8.toInt32)
          · have kst2 : Steps p.tables e below (T6.setTop (mkF m 117 #[.val (.ref r0), .val (.int (Int32.ofNat kp)), .val (.int (Int32.ofNat na)), .val (.int (Int32.ofNat nn)), .val (.ref r4), .val (.int p5), .val (.int (if (Int32.ofNat nn) = (0 : Int32) then (0 : Int32) else (((3 : Int32) * (Int32.ofNat nn)) - (1 : Int32)))), .val (.int (f3 ((((v_r4 ((kp - na) / 3)) &&& (255 : Int32)).toUInt32 >>> ((4 : Int32) &&& 31).toUInt32).toInt32))), .val (.int ((Int32.ofNat kp) - (Int32.ofNat na))), .val (.int (((Int32.ofNat kp) - (Int32.ofNat na)) / (3 : Int32))), .val (.int (((Int32.ofNat kp) - (Int32.ofNat na)) % (3 : Int32))), .val (.int ((v_r4 ((kp - na) / 3)) &&& (255 : Int32)))] [(.int (1 : Int32))])) t := by simpa only [if_pos hc109_7] using kst
            show Steps p.tables e below (T6.setTop (mkF m 109 #[.val (.ref r0), .val (.int (Int32.ofNat kp)), .val (.int (Int32.ofNat na)), .val (.int (Int32.ofNat nn)), .val (.ref r4), .val (.int p5), .val (.int (if (Int32.ofNat nn) = (0 : Int32) then (0 : Int32) else (((3 : Int32) * (Int32.ofNat nn)) - (1 : Int32)))), .val (.int (f3 ((((v_r4 ((kp - na) / 3)) &&& (255 : Int32)).toUInt32 >>> ((4 : Int32) &&& 31).toUInt32).toInt32))), .val (.int ((Int32.ofNat kp) - (Int32.ofNat na))), .val (.int (((Int32.ofNat kp) - (Int32.ofNat na)) / (3 : Int32))), .val (.int (((Int32.ofNat kp) - (Int32.ofNat na)) % (3 : Int32))), .val (.int ((v_r4 ((kp - na) / 3)) &&& (255 : Int32)))] [(.int ((f3 ((((v_r4 ((kp - na) / 3)) &&& (255 : Int32)).toUInt32 >>> ((4 : Int32) &&& 31).toUInt32).toInt32)).toInt8.toInt32)), (.int (v_r0 kp))])) _
            refine XS.icmpNo X6.here hx rfl (hb hby d2_109) rfl (teq hc109_7).2 ?_
            show Steps p.tables e below (T6.setTop (mkF m 112 #[.val (.ref r0), .val (.int (Int32.ofNat kp)), .val (.int (Int32.ofNat na)), .val (.int (Int32.ofNat nn)), .val (.ref r4), .val (.int p5), .val (.int (if (Int32.ofNat nn) = (0 : Int32) then (0 : Int32) else (((3 : Int32) * (Int32.ofNat nn)) - (1 : Int32)))), .val (.int (f3 ((((v_r4 ((kp - na) / 3)) &&& (255 : Int32)).toUInt32 >>> ((4 : Int32) &&& 31).toUInt32).toInt32))), .val (.int ((Int32.ofNat kp) - (Int32.ofNat na))), .val (.int (((Int32.ofNat kp) - (Int32.ofNat na)) / (3 : Int32))), .val (.int (((Int32.ofNat kp) - (Int32.ofNat na)) % (3 : Int32))), .val (.int ((v_r4 ((kp - na) / 3)) &&& (255 : Int32)))] [])) _
            refine XS.iconst X6.here hx rfl (hb hby d2_112) ?_
            show Steps p.tables e below (T6.setTop (mkF m 113 #[.val (.ref r0), .val (.int (Int32.ofNat kp)), .val (.int (Int32.ofNat na)), .val (.int (Int32.ofNat nn)), .val (.ref r4), .val (.int p5), .val (.int (if (Int32.ofNat nn) = (0 : Int32) then (0 : Int32) else (((3 : Int32) * (Int32.ofNat nn)) - (1 : Int32)))), .val (.int (f3 ((((v_r4 ((kp - na) / 3)) &&& (255 : Int32)).toUInt32 >>> ((4 : Int32) &&& 31).toUInt32).toInt32))), .val (.int ((Int32.ofNat kp) - (Int32.ofNat na))), .val (.int (((Int32.ofNat kp) - (Int32.ofNat na)) / (3 : Int32))), .val (.int (((Int32.ofNat kp) - (Int32.ofNat na)) % (3 : Int32))), .val (.int ((v_r4 ((kp - na) / 3)) &&& (255 : Int32)))] [(.int (1 : Int32))])) _
            refine XS.goto X6.here hx rfl (pc0 := 113) (pc' := 117) rfl (hb hby d2_113) (by decide) (by decide) ?_
            exact kst2
          · have kst2 : Steps p.tables e below (T6.setTop (mkF m 117 #[.val (.ref r0), .val (.int (Int32.ofNat kp)), .val (.int (Int32.ofNat na)), .val (.int (Int32.ofNat nn)), .val (.ref r4), .val (.int p5), .val (.int (if (Int32.ofNat nn) = (0 : Int32) then (0 : Int32) else (((3 : Int32) * (Int32.ofNat nn)) - (1 : Int32)))), .val (.int (f3 ((((v_r4 ((kp - na) / 3)) &&& (255 : Int32)).toUInt32 >>> ((4 : Int32) &&& 31).toUInt32).toInt32))), .val (.int ((Int32.ofNat kp) - (Int32.ofNat na))), .val (.int (((Int32.ofNat kp) - (Int32.ofNat na)) / (3 : Int32))), .val (.int (((Int32.ofNat kp) - (Int32.ofNat na)) % (3 : Int32))), .val (.int ((v_r4 ((kp - na) / 3)) &&& (255 : Int32)))] [(.int (0 : Int32))])) t := by simpa only [if_neg hc109_7] using kst
            show Steps p.tables e below (T6.setTop (mkF m 109 #[.val (.ref r0), .val (.int (Int32.ofNat kp)), .val (.int (Int32.ofNat na)), .val (.int (Int32.ofNat nn)), .val (.ref r4), .val (.int p5), .val (.int (if (Int32.ofNat nn) = (0 : Int32) then (0 : Int32) else (((3 : Int32) * (Int32.ofNat nn)) - (1 : Int32)))), .val (.int (f3 ((((v_r4 ((kp - na) / 3)) &&& (255 : Int32)).toUInt32 >>> ((4 : Int32) &&& 31).toUInt32).toInt32))), .val (.int ((Int32.ofNat kp) - (Int32.ofNat na))), .val (.int (((Int32.ofNat kp) - (Int32.ofNat na)) / (3 : Int32))), .val (.int (((Int32.ofNat kp) - (Int32.ofNat na)) % (3 : Int32))), .val (.int ((v_r4 ((kp - na) / 3)) &&& (255 : Int32)))] [(.int ((f3 ((((v_r4 ((kp - na) / 3)) &&& (255 : Int32)).toUInt32 >>> ((4 : Int32) &&& 31).toUInt32).toInt32)).toInt8.toInt32)), (.int (v_r0 kp))])) _
            refine XS.icmpYes X6.here hx rfl (pc0 := 109) (pc' := 116) rfl (hb hby d2_109) rfl (feq hc109_7).2 (by decide) (by decide) ?_
            show Steps p.tables e below (T6.setTop (mkF m 116 #[.val (.ref r0), .val (.int (Int32.ofNat kp)), .val (.int (Int32.ofNat na)), .val (.int (Int32.ofNat nn)), .val (.ref r4), .val (.int p5), .val (.int (if (Int32.ofNat nn) = (0 : Int32) then (0 : Int32) else (((3 : Int32) * (Int32.ofNat nn)) - (1 : Int32)))), .val (.int (f3 ((((v_r4 ((kp - na) / 3)) &&& (255 : Int32)).toUInt32 >>> ((4 : Int32) &&& 31).toUInt32).toInt32))), .val (.int ((Int32.ofNat kp) - (Int32.ofNat na))), .val (.int (((Int32.ofNat kp) - (Int32.ofNat na)) / (3 : Int32))), .val (.int (((Int32.ofNat kp) - (Int32.ofNat na)) % (3 : Int32))), .val (.int ((v_r4 ((kp - na) / 3)) &&& (255 : Int32)))] [])) _
            refine XS.iconst X6.here hx rfl (hb hby d2_116) ?_
            exact kst2
        refine Goes.go sm7 ?_
        show Goes p e below s _ _ _ (T6.setTop (mkF m 117 #[.val (.ref r0), .val (.int (Int32.ofNat kp)), .val (.int (Int32.ofNat na)), .val (.int (Int32.ofNat nn)), .val (.ref r4), .val (.int p5), .val (.int (if (Int32.ofNat nn) = (0 : Int32) then (0 : Int32) else (((3 : Int32) * (Int32.ofNat nn)) - (1 : Int32)))), .val (.int (f3 ((((v_r4 ((kp - na) / 3)) &&& (255 : Int32)).toUInt32 >>> ((4 : Int32) &&& 31).toUInt32).toInt32))), .val (.int ((Int32.ofNat kp) - (Int32.ofNat na))), .val (.int (((Int32.ofNat kp) - (Int32.ofNat na)) / (3 : Int32))), .val (.int (((Int32.ofNat kp) - (Int32.ofNat na)) % (3 : Int32))), .val (.int ((v_r4 ((kp - na) / 3)) &&& (255 : Int32)))] [(.int (if (v_r0 kp) = ((f3 ((((v_r4 ((kp - na) / 3)) &&& (255 : Int32)).toUInt32 >>> ((4 : Int32) &&& 31).toUInt32).toInt32)).toInt8.toInt32) then (1 : Int32) else (0 : Int32)))]))
        refine Goes.retN .boolean X6 hx hlk Bd.returns (by simp) (hb hby d2_117) ?_ (by decide) (by decide)
        exact ⟨by rfl, N6, e6⟩
      · skip
        refine Goes.qi (if_neg hc65_5) ?_
        refine Goes.go (fun _ kst => XS.ifYes X0.here hx rfl (pc0 := 65) (pc' := 80) rfl (hb hby d2_65) rfl ((if0 _ _).trans (feq hc65_5).2) (by decide) (by decide) kst) ?_
        show Goes p e below s _ _ _ (s₁.setTop (mkF m 80 #[.val (.ref r0), .val (.int (Int32.ofNat kp)), .val (.int (Int32.ofNat na)), .val (.int (Int32.ofNat nn)), .val (.ref r4), .val (.int p5), .val (.int (if (Int32.ofNat nn) = (0 : Int32) then (0 : Int32) else (((3 : Int32) * (Int32.ofNat nn)) - (1 : Int32)))), .unset, .val (.int ((Int32.ofNat kp) - (Int32.ofNat na))), .val (.int (((Int32.ofNat kp) - (Int32.ofNat na)) / (3 : Int32))), .val (.int (((Int32.ofNat kp) - (Int32.ofNat na)) % (3 : Int32))), .val (.int ((v_r4 ((kp - na) / 3)) &&& (255 : Int32)))] []))
        refine Goes.go (fun _ kst => XS.iload X0.here hx rfl (hb hby d2_80) rfl  kst) ?_
        show Goes p e below s _ _ _ (s₁.setTop (mkF m 82 #[.val (.ref r0), .val (.int (Int32.ofNat kp)), .val (.int (Int32.ofNat na)), .val (.int (Int32.ofNat nn)), .val (.ref r4), .val (.int p5), .val (.int (if (Int32.ofNat nn) = (0 : Int32) then (0 : Int32) else (((3 : Int32) * (Int32.ofNat nn)) - (1 : Int32)))), .unset, .val (.int ((Int32.ofNat kp) - (Int32.ofNat na))), .val (.int (((Int32.ofNat kp) - (Int32.ofNat na)) / (3 : Int32))), .val (.int (((Int32.ofNat kp) - (Int32.ofNat na)) % (3 : Int32))), .val (.int ((v_r4 ((kp - na) / 3)) &&& (255 : Int32)))] [(.int (((Int32.ofNat kp) - (Int32.ofNat na)) % (3 : Int32)))]))
        refine Goes.go (fun _ kst => XS.iconst X0.here hx rfl (hb hby d2_82) kst) ?_
        show Goes p e below s _ _ _ (s₁.setTop (mkF m 83 #[.val (.ref r0), .val (.int (Int32.ofNat kp)), .val (.int (Int32.ofNat na)), .val (.int (Int32.ofNat nn)), .val (.ref r4), .val (.int p5), .val (.int (if (Int32.ofNat nn) = (0 : Int32) then (0 : Int32) else (((3 : Int32) * (Int32.ofNat nn)) - (1 : Int32)))), .unset, .val (.int ((Int32.ofNat kp) - (Int32.ofNat na))), .val (.int (((Int32.ofNat kp) - (Int32.ofNat na)) / (3 : Int32))), .val (.int (((Int32.ofNat kp) - (Int32.ofNat na)) % (3 : Int32))), .val (.int ((v_r4 ((kp - na) / 3)) &&& (255 : Int32)))] [(.int (1 : Int32)), (.int (((Int32.ofNat kp) - (Int32.ofNat na)) % (3 : Int32)))]))
        by_cases hc83_8 : (((Int32.ofNat kp) - (Int32.ofNat na)) % (3 : Int32)) = (1 : Int32)
        · skip
          refine Goes.qi (if_pos hc83_8) ?_
          refine Goes.go (fun _ kst => XS.icmpNo X0.here hx rfl (hb hby d2_83) rfl (teq hc83_8).2 kst) ?_
          show Goes p e below s _ _ _ (s₁.setTop (mkF m 86 #[.val (.ref r0), .val (.int (Int32.ofNat kp)), .val (.int (Int32.ofNat na)), .val (.int (Int32.ofNat nn)), .val (.ref r4), .val (.int p5), .val (.int (if (Int32.ofNat nn) = (0 : Int32) then (0 : Int32) else (((3 : Int32) * (Int32.ofNat nn)) - (1 : Int32)))), .unset, .val (.int ((Int32.ofNat kp) - (Int32.ofNat na))), .val (.int (((Int32.ofNat kp) - (Int32.ofNat na)) / (3 : Int32))), .val (.int (((Int32.ofNat kp) - (Int32.ofNat na)) % (3 : Int32))), .val (.int ((v_r4 ((kp - na) / 3)) &&& (255 : Int32)))] []))
          refine Goes.go (fun _ kst => XS.iload X0.here hx rfl (hb hby d2_86) rfl  kst) ?_
          show Goes p e below s _ _ _ (s₁.setTop (mkF m 88 #[.val (.ref r0), .val (.int (Int32.ofNat kp)), .val (.int (Int32.ofNat na)), .val (.int (Int32.ofNat nn)), .val (.ref r4), .val (.int p5), .val (.int (if (Int32.ofNat nn) = (0 : Int32) then (0 : Int32) else (((3 : Int32) * (Int32.ofNat nn)) - (1 : Int32)))), .unset, .val (.int ((Int32.ofNat kp) - (Int32.ofNat na))), .val (.int (((Int32.ofNat kp) - (Int32.ofNat na)) / (3 : Int32))), .val (.int (((Int32.ofNat kp) - (Int32.ofNat na)) % (3 : Int32))), .val (.int ((v_r4 ((kp - na) / 3)) &&& (255 : Int32)))] [(.int ((v_r4 ((kp - na) / 3)) &&& (255 : Int32)))]))
          refine Goes.go (fun _ kst => XS.bipush X0.here hx rfl (hb hby d2_88) kst) ?_
          show Goes p e below s _ _ _ (s₁.setTop (mkF m 90 #[.val (.ref r0), .val (.int (Int32.ofNat kp)), .val (.int (Int32.ofNat na)), .val (.int (Int32.ofNat nn)), .val (.ref r4), .val (.int p5), .val (.int (if (Int32.ofNat nn) = (0 : Int32) then (0 : Int32) else (((3 : Int32) * (Int32.ofNat nn)) - (1 : Int32)))), .unset, .val (.int ((Int32.ofNat kp) - (Int32.ofNat na))), .val (.int (((Int32.ofNat kp) - (Int32.ofNat na)) / (3 : Int32))), .val (.int (((Int32.ofNat kp) - (Int32.ofNat na)) % (3 : Int32))), .val (.int ((v_r4 ((kp - na) / 3)) &&& (255 : Int32)))] [(.int (15 : Int32)), (.int ((v_r4 ((kp - na) / 3)) &&& (255 : Int32)))]))
          refine Goes.go (fun _ kst => XS.iand X0.here hx rfl (hb hby d2_90) rfl kst) ?_
          show Goes p e below s _ _ _ (s₁.setTop (mkF m 91 #[.val (.ref r0), .val (.int (Int32.ofNat kp)), .val (.int (Int32.ofNat na)), .val (.int (Int32.ofNat nn)), .val (.ref r4), .val (.int p5), .val (.int (if (Int32.ofNat nn) = (0 : Int32) then (0 : Int32) else (((3 : Int32) * (Int32.ofNat nn)) - (1 : Int32)))), .unset, .val (.int ((Int32.ofNat kp) - (Int32.ofNat na))), .val (.int (((Int32.ofNat kp) - (Int32.ofNat na)) / (3 : Int32))), .val (.int (((Int32.ofNat kp) - (Int32.ofNat na)) % (3 : Int32))), .val (.int ((v_r4 ((kp - na) / 3)) &&& (255 : Int32)))] [(.int (((v_r4 ((kp - na) / 3)) &&& (255 : Int32)) &&& (15 : Int32)))]))
          obtain ⟨_, _, ⟨T9, L9, k9, n9⟩, -, X9, ⟨Lc9, hQ9, l9, y9, z9⟩, st9⟩ := Jvm.LawKit.callS X0 hx (y := (⟨"org/cardprobe/HexFormatPinLaw", "hexDigit", "(I)I"⟩ : MethodName)) hown (mvT hZ (hw _ (List.mem_of_getElem? (i := 11) rfl))) (mvT hZ (hw _ (List.mem_of_getElem? (i := 12) rfl))) (mvT hZ (hw _ (List.mem_of_getElem? (i := 7) rfl))) (mvT hZ (hw _ (List.mem_of_getElem? (i := 13) rfl))) (by decide) (backOf (W := 0) (rm3 l Z a0 hw [] (((v_r4 ((kp - na) / 3)) &&& (255 : Int32)) &&& (15 : Int32)) h0 n0 Z0 ) hZ (hw _ (List.mem_of_getElem? (i := 13) rfl)) (hw _ (List.mem_of_getElem? (i := 7) rfl)) (by decide) (by decide)) (g := (mkF m 91 #[.val (.ref r0), .val (.int (Int32.ofNat kp)), .val (.int (Int32.ofNat na)), .val (.int (Int32.ofNat nn)), .val (.ref r4), .val (.int p5), .val (.int (if (Int32.ofNat nn) = (0 : Int32) then (0 : Int32) else (((3 : Int32) * (Int32.ofNat nn)) - (1 : Int32)))), .unset, .val (.int ((Int32.ofNat kp) - (Int32.ofNat na))), .val (.int (((Int32.ofNat kp) - (Int32.ofNat na)) / (3 : Int32))), .val (.int (((Int32.ofNat kp) - (Int32.ofNat na)) % (3 : Int32))), .val (.int ((v_r4 ((kp - na) / 3)) &&& (255 : Int32)))] [(.int (((v_r4 ((kp - na) / 3)) &&& (255 : Int32)) &&& (15 : Int32)))])) rfl (by rw [hml]; rfl) (argsL := [(.int (((v_r4 ((kp - na) / 3)) &&& (255 : Int32)) &&& (15 : Int32)))]) (rest := []) (lenOf pd_0 rfl) rfl (by show 2 * 0 + _ ≤ _; exact Nat.le_of_eq rfl) (hb hby d2_91) (fun _ _ => ⟨rfl, e0, (by decide : 0 + 0 ≤ _), (by decide : 0 + 0 ≤ _)⟩)
          dsimp only [Pt.U, Pt.locs, Pt.cells, Pt.slots] at X9 l9 y9 z9 st9 hQ9
          subst l9 y9 z9
          obtain ⟨rfl, N9q, e9⟩ := hQ9
          have N9 := Fr.app N0 N9q
          refine Goes.go st9 ?_
          show Goes p e below s _ _ _ (T9.setTop (mkF m 94 #[.val (.ref r0), .val (.int (Int32.ofNat kp)), .val (.int (Int32.ofNat na)), .val (.int (Int32.ofNat nn)), .val (.ref r4), .val (.int p5), .val (.int (if (Int32.ofNat nn) = (0 : Int32) then (0 : Int32) else (((3 : Int32) * (Int32.ofNat nn)) - (1 : Int32)))), .unset, .val (.int ((Int32.ofNat kp) - (Int32.ofNat na))), .val (.int (((Int32.ofNat kp) - (Int32.ofNat na)) / (3 : Int32))), .val (.int (((Int32.ofNat kp) - (Int32.ofNat na)) % (3 : Int32))), .val (.int ((v_r4 ((kp - na) / 3)) &&& (255 : Int32)))] [(.int (f3 (((v_r4 ((kp - na) / 3)) &&& (255 : Int32)) &&& (15 : Int32))))]))
          refine Goes.go (fun _ kst => XS.istore X9.here hx rfl (hb hby d2_94) rfl (l' := #[.val (.ref r0), .val (.int (Int32.ofNat kp)), .val (.int (Int32.ofNat na)), .val (.int (Int32.ofNat nn)), .val (.ref r4), .val (.int p5), .val (.int (if (Int32.ofNat nn) = (0 : Int32) then (0 : Int32) else (((3 : Int32) * (Int32.ofNat nn)) - (1 : Int32)))), .val (.int (f3 (((v_r4 ((kp - na) / 3)) &&& (255 : Int32)) &&& (15 : Int32)))), .val (.int ((Int32.ofNat kp) - (Int32.ofNat na))), .val (.int (((Int32.ofNat kp) - (Int32.ofNat na)) / (3 : Int32))), .val (.int (((Int32.ofNat kp) - (Int32.ofNat na)) % (3 : Int32))), .val (.int ((v_r4 ((kp - na) / 3)) &&& (255 : Int32)))]) rfl kst) ?_
          show Goes p e below s _ _ _ (T9.setTop (mkF m 96 #[.val (.ref r0), .val (.int (Int32.ofNat kp)), .val (.int (Int32.ofNat na)), .val (.int (Int32.ofNat nn)), .val (.ref r4), .val (.int p5), .val (.int (if (Int32.ofNat nn) = (0 : Int32) then (0 : Int32) else (((3 : Int32) * (Int32.ofNat nn)) - (1 : Int32)))), .val (.int (f3 (((v_r4 ((kp - na) / 3)) &&& (255 : Int32)) &&& (15 : Int32)))), .val (.int ((Int32.ofNat kp) - (Int32.ofNat na))), .val (.int (((Int32.ofNat kp) - (Int32.ofNat na)) / (3 : Int32))), .val (.int (((Int32.ofNat kp) - (Int32.ofNat na)) % (3 : Int32))), .val (.int ((v_r4 ((kp - na) / 3)) &&& (255 : Int32)))] []))
          refine Goes.go (fun _ kst => XS.goto X9.here hx rfl (pc0 := 96) (pc' := 103) rfl (hb hby d2_96) (by decide) (by decide) kst) ?_
          show Goes p e below s _ _ _ (T9.setTop (mkF m 103 #[.val (.ref r0), .val (.int (Int32.ofNat kp)), .val (.int (Int32.ofNat na)), .val (.int (Int32.ofNat nn)), .val (.ref r4), .val (.int p5), .val (.int (if (Int32.ofNat nn) = (0 : Int32) then (0 : Int32) else (((3 : Int32) * (Int32.ofNat nn)) - (1 : Int32)))), .val (.int (f3 (((v_r4 ((kp - na) / 3)) &&& (255 : Int32)) &&& (15 : Int32)))), .val (.int ((Int32.ofNat kp) - (Int32.ofNat na))), .val (.int (((Int32.ofNat kp) - (Int32.ofNat na)) / (3 : Int32))), .val (.int (((Int32.ofNat kp) - (Int32.ofNat na)) % (3 : Int32))), .val (.int ((v_r4 ((kp - na) / 3)) &&& (255 : Int32)))] []))
          refine Goes.go (fun _ kst => XS.aloadN X9.here hx rfl (hb hby d2_103) rfl rfl  kst) ?_
          show Goes p e below s _ _ _ (T9.setTop (mkF m 104 #[.val (.ref r0), .val (.int (Int32.ofNat kp)), .val (.int (Int32.ofNat na)), .val (.int (Int32.ofNat nn)), .val (.ref r4), .val (.int p5), .val (.int (if (Int32.ofNat nn) = (0 : Int32) then (0 : Int32) else (((3 : Int32) * (Int32.ofNat nn)) - (1 : Int32)))), .val (.int (f3 (((v_r4 ((kp - na) / 3)) &&& (255 : Int32)) &&& (15 : Int32)))), .val (.int ((Int32.ofNat kp) - (Int32.ofNat na))), .val (.int (((Int32.ofNat kp) - (Int32.ofNat na)) / (3 : Int32))), .val (.int (((Int32.ofNat kp) - (Int32.ofNat na)) % (3 : Int32))), .val (.int ((v_r4 ((kp - na) / 3)) &&& (255 : Int32)))] [(.ref r0)]))
          refine Goes.go (fun _ kst => XS.iloadN X9.here hx rfl (hb hby d2_104) rfl  kst) ?_
          show Goes p e below s _ _ _ (T9.setTop (mkF m 105 #[.val (.ref r0), .val (.int (Int32.ofNat kp)), .val (.int (Int32.ofNat na)), .val (.int (Int32.ofNat nn)), .val (.ref r4), .val (.int p5), .val (.int (if (Int32.ofNat nn) = (0 : Int32) then (0 : Int32) else (((3 : Int32) * (Int32.ofNat nn)) - (1 : Int32)))), .val (.int (f3 (((v_r4 ((kp - na) / 3)) &&& (255 : Int32)) &&& (15 : Int32)))), .val (.int ((Int32.ofNat kp) - (Int32.ofNat na))), .val (.int (((Int32.ofNat kp) - (Int32.ofNat na)) / (3 : Int32))), .val (.int (((Int32.ofNat kp) - (Int32.ofNat na)) % (3 : Int32))), .val (.int ((v_r4 ((kp - na) / 3)) &&& (255 : Int32)))] [(.int (Int32.ofNat kp)), (.ref r0)]))
          refine Goes.go (own_ldB X9 hx hZ e9 A_r0 (i := kp) rfl (by rw [hnt]; exact hkp) (g := (mkF m 105 #[.val (.ref r0), .val (.int (Int32.ofNat kp)), .val (.int (Int32.ofNat na)), .val (.int (Int32.ofNat nn)), .val (.ref r4), .val (.int p5), .val (.int (if (Int32.ofNat nn) = (0 : Int32) then (0 : Int32) else (((3 : Int32) * (Int32.ofNat nn)) - (1 : Int32)))), .val (.int (f3 (((v_r4 ((kp - na) / 3)) &&& (255 : Int32)) &&& (15 : Int32)))), .val (.int ((Int32.ofNat kp) - (Int32.ofNat na))), .val (.int (((Int32.ofNat kp) - (Int32.ofNat na)) / (3 : Int32))), .val (.int (((Int32.ofNat kp) - (Int32.ofNat na)) % (3 : Int32))), .val (.int ((v_r4 ((kp - na) / 3)) &&& (255 : Int32)))] [(.int (Int32.ofNat kp)), (.ref r0)])) rfl rfl (hb hby d2_105)) ?_
          show Goes p e below s _ _ _ (T9.setTop (mkF m 106 #[.val (.ref r0), .val (.int (Int32.ofNat kp)), .val (.int (Int32.ofNat na)), .val (.int (Int32.ofNat nn)), .val (.ref r4), .val (.int p5), .val (.int (if (Int32.ofNat nn) = (0 : Int32) then (0 : Int32) else (((3 : Int32) * (Int32.ofNat nn)) - (1 : Int32)))), .val (.int (f3 (((v_r4 ((kp - na) / 3)) &&& (255 : Int32)) &&& (15 : Int32)))), .val (.int ((Int32.ofNat kp) - (Int32.ofNat na))), .val (.int (((Int32.ofNat kp) - (Int32.ofNat na)) / (3 : Int32))), .val (.int (((Int32.ofNat kp) - (Int32.ofNat na)) % (3 : Int32))), .val (.int ((v_r4 ((kp - na) / 3)) &&& (255 : Int32)))] [(.int (v_r0 kp))]))
          refine Goes.go (fun _ kst => XS.iload X9.here hx rfl (hb hby d2_106) rfl  kst) ?_
          show Goes p e below s _ _ _ (T9.setTop (mkF m 108 #[.val (.ref r0), .val (.int (Int32.ofNat kp)), .val (.int (Int32.ofNat na)), .val (.int (Int32.ofNat nn)), .val (.ref r4), .val (.int p5), .val (.int (if (Int32.ofNat nn) = (0 : Int32) then (0 : Int32) else (((3 : Int32) * (Int32.ofNat nn)) - (1 : Int32)))), .val (.int (f3 (((v_r4 ((kp - na) / 3)) &&& (255 : Int32)) &&& (15 : Int32)))), .val (.int ((Int32.ofNat kp) - (Int32.ofNat na))), .val (.int (((Int32.ofNat kp) - (Int32.ofNat na)) / (3 : Int32))), .val (.int (((Int32.ofNat kp) - (Int32.ofNat na)) % (3 : Int32))), .val (.int ((v_r4 ((kp - na) / 3)) &&& (255 : Int32)))] [(.int (f3 (((v_r4 ((kp - na) / 3)) &&& (255 : Int32)) &&& (15 : Int32)))), (.int (v_r0 kp))]))
          refine Goes.go (fun _ kst => XS.i2b X9.here hx rfl (hb hby d2_108) rfl kst) ?_
          show Goes p e below s _ _ _ (T9.setTop (mkF m 109 #[.val (.ref r0), .val (.int (Int32.ofNat kp)), .val (.int (Int32.ofNat na)), .val (.int (Int32.ofNat nn)), .val (.ref r4), .val (.int p5), .val (.int (if (Int32.ofNat nn) = (0 : Int32) then (0 : Int32) else (((3 : Int32) * (Int32.ofNat nn)) - (1 : Int32)))), .val (.int (f3 (((v_r4 ((kp - na) / 3)) &&& (255 : Int32)) &&& (15 : Int32)))), .val (.int ((Int32.ofNat kp) - (Int32.ofNat na))), .val (.int (((Int32.ofNat kp) - (Int32.ofNat na)) / (3 : Int32))), .val (.int (((Int32.ofNat kp) - (Int32.ofNat na)) % (3 : Int32))), .val (.int ((v_r4 ((kp - na) / 3)) &&& (255 : Int32)))] [(.int ((f3 (((v_r4 ((kp - na) / 3)) &&& (255 : Int32)) &&& (15 : Int32))).toInt8.toInt32)), (.int (v_r0 kp))]))
          have sm10 : ∀ t, Steps p.tables e below (T9.setTop (mkF m 117 #[.val (.ref r0), .val (.int (Int32.ofNat kp)), .val (.int (Int32.ofNat na)), .val (.int (Int32.ofNat nn)), .val (.ref r4), .val (.int p5), .val (.int (if (Int32.ofNat nn) = (0 : Int32) then (0 : Int32) else (((3 : Int32) * (Int32.ofNat nn)) - (1 : Int32)))), .val (.int (f3 (((v_r4 ((kp - na) / 3)) &&& (255 : Int32)) &&& (15 : Int32)))), .val (.int ((Int32.ofNat kp) - (Int32.ofNat na))), .val (.int (((Int32.ofNat kp) - (Int32.ofNat na)) / (3 : Int32))), .val (.int (((Int32.ofNat kp) - (Int32.ofNat na)) % (3 : Int32))), .val (.int ((v_r4 ((kp - na) / 3)) &&& (255 : Int32)))] [(.int (if (v_r0 kp) = ((f3 (((v_r4 ((kp - na) / 3)) &&& (255 : Int32)) &&& (15 : Int32))).toInt8.toInt32) then (1 : Int32) else (0 : Int32)))])) t → Steps p.tables e below (T9.setTop (mkF m 109 #[.val (.ref r0), .val (.int (Int32.ofNat kp)), .val (.int (Int32.ofNat na)), .val (.int (Int32.ofNat nn)), .val (.ref r4), .val (.int p5), .val (.int (if (Int32.ofNat nn) = (0 : Int32) then (0 : Int32) else (((3 : Int32) * (Int32.ofNat nn)) - (1 : Int32)))), .val (.int (f3 (((v_r4 ((kp - na) / 3)) &&& (255 : Int32)) &&& (15 : Int32)))), .val (.int ((Int32.ofNat kp) - (Int32.ofNat na))), .val (.int (((Int32.ofNat kp) - (Int32.ofNat na)) / (3 : Int32))), .val (.int (((Int32.ofNat kp) - (Int32.ofNat na)) % (3 : Int32))), .val (.int ((v_r4 ((kp - na) / 3)) &&& (255 : Int32)))] [(.int ((f3 (((v_r4 ((kp - na) / 3)) &&& (255 : Int32)) &&& (15 : Int32))).toInt8.toInt32)), (.int (v_r0 kp))])) t := by
            intro t kst
            by_cases hc109_10 : (v_r0 kp) = ((f3 (((v_r4 ((kp - na) / 3)) &&& (255 : Int32)) &&& (15 : Int32))).toInt8.toInt32)
            · have kst2 : Steps p.tables e below (T9.setTop (mkF m 117 #[.val (.ref r0), .val (.int (Int32.ofNat kp)), .val (.int (Int32.ofNat na)), .val (.int (Int32.ofNat nn)), .val (.ref r4), .val (.int p5), .val (.int (if (Int32.ofNat nn) = (0 : Int32) then (0 : Int32) else (((3 : Int32) * (Int32.ofNat nn)) - (1 : Int32)))), .val (.int (f3 (((v_r4 ((kp - na) / 3)) &&& (255 : Int32)) &&& (15 : Int32)))), .val (.int ((Int32.ofNat kp) - (Int32.ofNat na))), .val (.int (((Int32.ofNat kp) - (Int32.ofNat na)) / (3 : Int32))), .val (.int (((Int32.ofNat kp) - (Int32.ofNat na)) % (3 : Int32))), .val (.int ((v_r4 ((kp - na) / 3)) &&& (255 : Int32)))] [(.int (1 : Int32))])) t := by simpa only [if_pos hc109_10] using kst
              show Steps p.tables e below (T9.setTop (mkF m 109 #[.val (.ref r0), .val (.int (Int32.ofNat kp)), .val (.int (Int32.ofNat na)), .val (.int (Int32.ofNat nn)), .val (.ref r4), .val (.int p5), .val (.int (if (Int32.ofNat nn) = (0 : Int32) then (0 : Int32) else (((3 : Int32) * (Int32.ofNat nn)) - (1 : Int32)))), .val (.int (f3 (((v_r4 ((kp - na) / 3)) &&& (255 : Int32)) &&& (15 : Int32)))), .val (.int ((Int32.ofNat kp) - (Int32.ofNat na))), .val (.int (((Int32.ofNat kp) - (Int32.ofNat na)) / (3 : Int32))), .val (.int (((Int32.ofNat kp) - (Int32.ofNat na)) % (3 : Int32))), .val (.int ((v_r4 ((kp - na) / 3)) &&& (255 : Int32)))] [(.int ((f3 (((v_r4 ((kp - na) / 3)) &&& (255 : Int32)) &&& (15 : Int32))).toInt8.toInt32)), (.int (v_r0 kp))])) _
              refine XS.icmpNo X9.here hx rfl (hb hby d2_109) rfl (teq hc109_10).2 ?_
              show Steps p.tables e below (T9.setTop (mkF m 112 #[.val (.ref r0), .val (.int (Int32.ofNat kp)), .val (.int (Int32.ofNat na)), .val (.int (Int32.ofNat nn)), .val (.ref r4), .val (.int p5), .val (.int (if (Int32.ofNat nn) = (0 : Int32) then (0 : Int32) else (((3 : Int32) * (Int32.ofNat nn)) - (1 : Int32)))), .val (.int (f3 (((v_r4 ((kp - na) / 3)) &&& (255 : Int32)) &&& (15 : Int32)))), .val (.int ((Int32.ofNat kp) - (Int32.ofNat na))), .val (.int (((Int32.ofNat kp) - (Int32.ofNat na)) / (3 : Int32))), .val (.int (((Int32.ofNat kp) - (Int32.ofNat na)) % (3 : Int32))), .val (.int ((v_r4 ((kp - na) / 3)) &&& (255 : Int32)))] [])) _
              refine XS.iconst X9.here hx rfl (hb hby d2_112) ?_
              show Steps p.tables e below (T9.setTop (mkF m 113 #[.val (.ref r0), .val (.int (Int32.ofNat kp)), .val (.int (Int32.ofNat na)), .val (.int (Int32.ofNat nn)), .val (.ref r4), .val (.int p5), .val (.int (if (Int32.ofNat nn) = (0 : Int32) then (0 : Int32) else (((3 : Int32) * (Int32.ofNat nn)) - (1 : Int32)))), .val (.int (f3 (((v_r4 ((kp - na) / 3)) &&& (255 : Int32)) &&& (15 : Int32)))), .val (.int ((Int32.ofNat kp) - (Int32.ofNat na))), .val (.int (((Int32.ofNat kp) - (Int32.ofNat na)) / (3 : Int32))), .val (.int (((Int32.ofNat kp) - (Int32.ofNat na)) % (3 : Int32))), .val (.int ((v_r4 ((kp - na) / 3)) &&& (255 : Int32)))] [(.int (1 : Int32))])) _
              refine XS.goto X9.here hx rfl (pc0 := 113) (pc' := 117) rfl (hb hby d2_113) (by decide) (by decide) ?_
              exact kst2
            · have kst2 : Steps p.tables e below (T9.setTop (mkF m 117 #[.val (.ref r0), .val (.int (Int32.ofNat kp)), .val (.int (Int32.ofNat na)), .val (.int (Int32.ofNat nn)), .val (.ref r4), .val (.int p5), .val (.int (if (Int32.ofNat nn) = (0 : Int32) then (0 : Int32) else (((3 : Int32) * (Int32.ofNat nn)) - (1 : Int32)))), .val (.int (f3 (((v_r4 ((kp - na) / 3)) &&& (255 : Int32)) &&& (15 : Int32)))), .val (.int ((Int32.ofNat kp) - (Int32.ofNat na))), .val (.int (((Int32.ofNat kp) - (Int32.ofNat na)) / (3 : Int32))), .val (.int (((Int32.ofNat kp) - (Int32.ofNat na)) % (3 : Int32))), .val (.int ((v_r4 ((kp - na) / 3)) &&& (255 : Int32)))] [(.int (0 : Int32))])) t := by simpa only [if_neg hc109_10] using kst
              show Steps p.tables e below (T9.setTop (mkF m 109 #[.val (.ref r0), .val (.int (Int32.ofNat kp)), .val (.int (Int32.ofNat na)), .val (.int (Int32.ofNat nn)), .val (.ref r4), .val (.int p5), .val (.int (if (Int32.ofNat nn) = (0 : Int32) then (0 : Int32) else (((3 : Int32) * (Int32.ofNat nn)) - (1 : Int32)))), .val (.int (f3 (((v_r4 ((kp - na) / 3)) &&& (255 : Int32)) &&& (15 : Int32)))), .val (.int ((Int32.ofNat kp) - (Int32.ofNat na))), .val (.int (((Int32.ofNat kp) - (Int32.ofNat na)) / (3 : Int32))), .val (.int (((Int32.ofNat kp) - (Int32.ofNat na)) % (3 : Int32))), .val (.int ((v_r4 ((kp - na) / 3)) &&& (255 : Int32)))] [(.int ((f3 (((v_r4 ((kp - na) / 3)) &&& (255 : Int32)) &&& (15 : Int32))).toInt8.toInt32)), (.int (v_r0 kp))])) _
              refine XS.icmpYes X9.here hx rfl (pc0 := 109) (pc' := 116) rfl (hb hby d2_109) rfl (feq hc109_10).2 (by decide) (by decide) ?_
              show Steps p.tables e below (T9.setTop (mkF m 116 #[.val (.ref r0), .val (.int (Int32.ofNat kp)), .val (.int (Int32.ofNat na)), .val (.int (Int32.ofNat nn)), .val (.ref r4), .val (.int p5), .val (.int (if (Int32.ofNat nn) = (0 : Int32) then (0 : Int32) else (((3 : Int32) * (Int32.ofNat nn)) - (1 : Int32)))), .val (.int (f3 (((v_r4 ((kp - na) / 3)) &&& (255 : Int32)) &&& (15 : Int32)))), .val (.int ((Int32.ofNat kp) - (Int32.ofNat na))), .val (.int (((Int32.ofNat kp) - (Int32.ofNat na)) / (3 : Int32))), .val (.int (((Int32.ofNat kp) - (Int32.ofNat na)) % (3 : Int32))), .val (.int ((v_r4 ((kp - na) / 3)) &&& (255 : Int32)))] [])) _
              refine XS.iconst X9.here hx rfl (hb hby d2_116) ?_
              exact kst2
          refine Goes.go sm10 ?_
          show Goes p e below s _ _ _ (T9.setTop (mkF m 117 #[.val (.ref r0), .val (.int (Int32.ofNat kp)), .val (.int (Int32.ofNat na)), .val (.int (Int32.ofNat nn)), .val (.ref r4), .val (.int p5), .val (.int (if (Int32.ofNat nn) = (0 : Int32) then (0 : Int32) else (((3 : Int32) * (Int32.ofNat nn)) - (1 : Int32)))), .val (.int (f3 (((v_r4 ((kp - na) / 3)) &&& (255 : Int32)) &&& (15 : Int32)))), .val (.int ((Int32.ofNat kp) - (Int32.ofNat na))), .val (.int (((Int32.ofNat kp) - (Int32.ofNat na)) / (3 : Int32))), .val (.int (((Int32.ofNat kp) - (Int32.ofNat na)) % (3 : Int32))), .val (.int ((v_r4 ((kp - na) / 3)) &&& (255 : Int32)))] [(.int (if (v_r0 kp) = ((f3 (((v_r4 ((kp - na) / 3)) &&& (255 : Int32)) &&& (15 : Int32))).toInt8.toInt32) then (1 : Int32) else (0 : Int32)))]))
          refine Goes.retN .boolean X9 hx hlk Bd.returns (by simp) (hb hby d2_117) ?_ (by decide) (by decide)
          exact ⟨by rfl, N9, e9⟩
        · skip
          refine Goes.qi (if_neg hc83_8) ?_
          refine Goes.go (fun _ kst => XS.icmpYes X0.here hx rfl (pc0 := 83) (pc' := 99) rfl (hb hby d2_83) rfl (feq hc83_8).2 (by decide) (by decide) kst) ?_
          show Goes p e below s _ _ _ (s₁.setTop (mkF m 99 #[.val (.ref r0), .val (.int (Int32.ofNat kp)), .val (.int (Int32.ofNat na)), .val (.int (Int32.ofNat nn)), .val (.ref r4), .val (.int p5), .val (.int (if (Int32.ofNat nn) = (0 : Int32) then (0 : Int32) else (((3 : Int32) * (Int32.ofNat nn)) - (1 : Int32)))), .unset, .val (.int ((Int32.ofNat kp) - (Int32.ofNat na))), .val (.int (((Int32.ofNat kp) - (Int32.ofNat na)) / (3 : Int32))), .val (.int (((Int32.ofNat kp) - (Int32.ofNat na)) % (3 : Int32))), .val (.int ((v_r4 ((kp - na) / 3)) &&& (255 : Int32)))] []))
          refine Goes.go (fun _ kst => XS.bipush X0.here hx rfl (hb hby d2_99) kst) ?_
          show Goes p e below s _ _ _ (s₁.setTop (mkF m 101 #[.val (.ref r0), .val (.int (Int32.ofNat kp)), .val (.int (Int32.ofNat na)), .val (.int (Int32.ofNat nn)), .val (.ref r4), .val (.int p5), .val (.int (if (Int32.ofNat nn) = (0 : Int32) then (0 : Int32) else (((3 : Int32) * (Int32.ofNat nn)) - (1 : Int32)))), .unset, .val (.int ((Int32.ofNat kp) - (Int32.ofNat na))), .val (.int (((Int32.ofNat kp) - (Int32.ofNat na)) / (3 : Int32))), .val (.int (((Int32.ofNat kp) - (Int32.ofNat na)) % (3 : Int32))), .val (.int ((v_r4 ((kp - na) / 3)) &&& (255 : Int32)))] [(.int (32 : Int32))]))
          refine Goes.go (fun _ kst => XS.istore X0.here hx rfl (hb hby d2_101) rfl (l' := #[.val (.ref r0), .val (.int (Int32.ofNat kp)), .val (.int (Int32.ofNat na)), .val (.int (Int32.ofNat nn)), .val (.ref r4), .val (.int p5), .val (.int (if (Int32.ofNat nn) = (0 : Int32) then (0 : Int32) else (((3 : Int32) * (Int32.ofNat nn)) - (1 : Int32)))), .val (.int (32 : Int32)), .val (.int ((Int32.ofNat kp) - (Int32.ofNat na))), .val (.int (((Int32.ofNat kp) - (Int32.ofNat na)) / (3 : Int32))), .val (.int (((Int32.ofNat kp) - (Int32.ofNat na)) % (3 : Int32))), .val (.int ((v_r4 ((kp - na) / 3)) &&& (255 : Int32)))]) rfl kst) ?_
          show Goes p e below s _ _ _ (s₁.setTop (mkF m 103 #[.val (.ref r0), .val (.int (Int32.ofNat kp)), .val (.int (Int32.ofNat na)), .val (.int (Int32.ofNat nn)), .val (.ref r4), .val (.int p5), .val (.int (if (Int32.ofNat nn) = (0 : Int32) then (0 : Int32) else (((3 : Int32) * (Int32.ofNat nn)) - (1 : Int32)))), .val (.int (32 : Int32)), .val (.int ((Int32.ofNat kp) - (Int32.ofNat na))), .val (.int (((Int32.ofNat kp) - (Int32.ofNat na)) / (3 : Int32))), .val (.int (((Int32.ofNat kp) - (Int32.ofNat na)) % (3 : Int32))), .val (.int ((v_r4 ((kp - na) / 3)) &&& (255 : Int32)))] []))
          refine Goes.go (fun _ kst => XS.aloadN X0.here hx rfl (hb hby d2_103) rfl rfl  kst) ?_
          show Goes p e below s _ _ _ (s₁.setTop (mkF m 104 #[.val (.ref r0), .val (.int (Int32.ofNat kp)), .val (.int (Int32.ofNat na)), .val (.int (Int32.ofNat nn)), .val (.ref r4), .val (.int p5), .val (.int (if (Int32.ofNat nn) = (0 : Int32) then (0 : Int32) else (((3 : Int32) * (Int32.ofNat nn)) - (1 : Int32)))), .val (.int (32 : Int32)), .val (.int ((Int32.ofNat kp) - (Int32.ofNat na))), .val (.int (((Int32.ofNat kp) - (Int32.ofNat na)) / (3 : Int32))), .val (.int (((Int32.ofNat kp) - (Int32.ofNat na)) % (3 : Int32))), .val (.int ((v_r4 ((kp - na) / 3)) &&& (255 : Int32)))] [(.ref r0)]))
          refine Goes.go (fun _ kst => XS.iloadN X0.here hx rfl (hb hby d2_104) rfl  kst) ?_
          show Goes p e below s _ _ _ (s₁.setTop (mkF m 105 #[.val (.ref r0), .val (.int (Int32.ofNat kp)), .val (.int (Int32.ofNat na)), .val (.int (Int32.ofNat nn)), .val (.ref r4), .val (.int p5), .val (.int (if (Int32.ofNat nn) = (0 : Int32) then (0 : Int32) else (((3 : Int32) * (Int32.ofNat nn)) - (1 : Int32)))), .val (.int (32 : Int32)), .val (.int ((Int32.ofNat kp) - (Int32.ofNat na))), .val (.int (((Int32.ofNat kp) - (Int32.ofNat na)) / (3 : Int32))), .val (.int (((Int32.ofNat kp) - (Int32.ofNat na)) % (3 : Int32))), .val (.int ((v_r4 ((kp - na) / 3)) &&& (255 : Int32)))] [(.int (Int32.ofNat kp)), (.ref r0)]))
          refine Goes.go (own_ldB X0 hx hZ e0 A_r0 (i := kp) rfl (by rw [hnt]; exact hkp) (g := (mkF m 105 #[.val (.ref r0), .val (.int (Int32.ofNat kp)), .val (.int (Int32.ofNat na)), .val (.int (Int32.ofNat nn)), .val (.ref r4), .val (.int p5), .val (.int (if (Int32.ofNat nn) = (0 : Int32) then (0 : Int32) else (((3 : Int32) * (Int32.ofNat nn)) - (1 : Int32)))), .val (.int (32 : Int32)), .val (.int ((Int32.ofNat kp) - (Int32.ofNat na))), .val (.int (((Int32.ofNat kp) - (Int32.ofNat na)) / (3 : Int32))), .val (.int (((Int32.ofNat kp) - (Int32.ofNat na)) % (3 : Int32))), .val (.int ((v_r4 ((kp - na) / 3)) &&& (255 : Int32)))] [(.int (Int32.ofNat kp)), (.ref r0)])) rfl rfl (hb hby d2_105)) ?_
          show Goes p e below s _ _ _ (s₁.setTop (mkF m 106 #[.val (.ref r0), .val (.int (Int32.ofNat kp)), .val (.int (Int32.ofNat na)), .val (.int (Int32.ofNat nn)), .val (.ref r4), .val (.int p5), .val (.int (if (Int32.ofNat nn) = (0 : Int32) then (0 : Int32) else (((3 : Int32) * (Int32.ofNat nn)) - (1 : Int32)))), .val (.int (32 : Int32)), .val (.int ((Int32.ofNat kp) - (Int32.ofNat na))), .val (.int (((Int32.ofNat kp) - (Int32.ofNat na)) / (3 : Int32))), .val (.int (((Int32.ofNat kp) - (Int32.ofNat na)) % (3 : Int32))), .val (.int ((v_r4 ((kp - na) / 3)) &&& (255 : Int32)))] [(.int (v_r0 kp))]))
          refine Goes.go (fun _ kst => XS.iload X0.here hx rfl (hb hby d2_106) rfl  kst) ?_
          show Goes p e below s _ _ _ (s₁.setTop (mkF m 108 #[.val (.ref r0), .val (.int (Int32.ofNat kp)), .val (.int (Int32.ofNat na)), .val (.int (Int32.ofNat nn)), .val (.ref r4), .val (.int p5), .val (.int (if (Int32.ofNat nn) = (0 : Int32) then (0 : Int32) else (((3 : Int32) * (Int32.ofNat nn)) - (1 : Int32)))), .val (.int (32 : Int32)), .val (.int ((Int32.ofNat kp) - (Int32.ofNat na))), .val (.int (((Int32.ofNat kp) - (Int32.ofNat na)) / (3 : Int32))), .val (.int (((Int32.ofNat kp) - (Int32.ofNat na)) % (3 : Int32))), .val (.int ((v_r4 ((kp - na) / 3)) &&& (255 : Int32)))] [(.int (32 : Int32)), (.int (v_r0 kp))]))
          refine Goes.go (fun _ kst => XS.i2b X0.here hx rfl (hb hby d2_108) rfl kst) ?_
          show Goes p e below s _ _ _ (s₁.setTop (mkF m 109 #[.val (.ref r0), .val (.int (Int32.ofNat kp)), .val (.int (Int32.ofNat na)), .val (.int (Int32.ofNat nn)), .val (.ref r4), .val (.int p5), .val (.int (if (Int32.ofNat nn) = (0 : Int32) then (0 : Int32) else (((3 : Int32) * (Int32.ofNat nn)) - (1 : Int32)))), .val (.int (32 : Int32)), .val (.int ((Int32.ofNat kp) - (Int32.ofNat na))), .val (.int (((Int32.ofNat kp) - (Int32.ofNat na)) / (3 : Int32))), .val (.int (((Int32.ofNat kp) - (Int32.ofNat na)) % (3 : Int32))), .val (.int ((v_r4 ((kp - na) / 3)) &&& (255 : Int32)))] [(.int ((32 : Int32).toInt8.toInt32)), (.int (v_r0 kp))]))
          have sm11 : ∀ t, Steps p.tables e below (s₁.setTop (mkF m 117 #[.val (.ref r0), .val (.int (Int32.ofNat kp)), .val (.int (Int32.ofNat na)), .val (.int (Int32.ofNat nn)), .val (.ref r4), .val (.int p5), .val (.int (if (Int32.ofNat nn) = (0 : Int32) then (0 : Int32) else (((3 : Int32) * (Int32.ofNat nn)) - (1 : Int32)))), .val (.int (32 : Int32)), .val (.int ((Int32.ofNat kp) - (Int32.ofNat na))), .val (.int (((Int32.ofNat kp) - (Int32.ofNat na)) / (3 : Int32))), .val (.int (((Int32.ofNat kp) - (Int32.ofNat na)) % (3 : Int32))), .val (.int ((v_r4 ((kp - na) / 3)) &&& (255 : Int32)))] [(.int (if (v_r0 kp) = ((32 : Int32).toInt8.toInt32) then (1 : Int32) else (0 : Int32)))])) t → Steps p.tables e below (s₁.setTop (mkF m 109 #[.val (.ref r0), .val (.int (Int32.ofNat kp)), .val (.int (Int32.ofNat na)), .val (.int (Int32.ofNat nn)), .val (.ref r4), .val (.int p5), .val (.int (if (Int32.ofNat nn) = (0 : Int32) then (0 : Int32) else (((3 : Int32) * (Int32.ofNat nn)) - (1 : Int32)))), .val (.int (32 : Int32)), .val (.int ((Int32.ofNat kp) - (Int32.ofNat na))), .val (.int (((Int32.ofNat kp) - (Int32.ofNat na)) / (3 : Int32))), .val (.int (((Int32.ofNat kp) - (Int32.ofNat na)) % (3 : Int32))), .val (.int ((v_r4 ((kp - na) / 3)) &&& (255 : Int32)))] [(.int ((32 : Int32).toInt8.toInt32)), (.int (v_r0 kp))])) t := by
            intro t kst
            by_cases hc109_11 : (v_r0 kp) = ((32 : Int32).toInt8.toInt32)
            · have kst2 : Steps p.tables e below (s₁.setTop (mkF m 117 #[.val (.ref r0), .val (.int (Int32.ofNat kp)), .val (.int (Int32.ofNat na)), .val (.int (Int32.ofNat nn)), .val (.ref r4), .val (.int p5), .val (.int (if (Int32.ofNat nn) = (0 : Int32) then (0 : Int32) else (((3 : Int32) * (Int32.ofNat nn)) - (1 : Int32)))), .val (.int (32 : Int32)), .val (.int ((Int32.ofNat kp) - (Int32.ofNat na))), .val (.int (((Int32.ofNat kp) - (Int32.ofNat na)) / (3 : Int32))), .val (.int (((Int32.ofNat kp) - (Int32.ofNat na)) % (3 : Int32))), .val (.int ((v_r4 ((kp - na) / 3)) &&& (255 : Int32)))] [(.int (1 : Int32))])) t := by simpa only [if_pos hc109_11] using kst
              show Steps p.tables e below (s₁.setTop (mkF m 109 #[.val (.ref r0), .val (.int (Int32.ofNat kp)), .val (.int (Int32.ofNat na)), .val (.int (Int32.ofNat nn)), .val (.ref r4), .val (.int p5), .val (.int (if (Int32.ofNat nn) = (0 : Int32) then (0 : Int32) else (((3 : Int32) * (Int32.ofNat nn)) - (1 : Int32)))), .val (.int (32 : Int32)), .val (.int ((Int32.ofNat kp) - (Int32.ofNat na))), .val (.int (((Int32.ofNat kp) - (Int32.ofNat na)) / (3 : Int32))), .val (.int (((Int32.ofNat kp) - (Int32.ofNat na)) % (3 : Int32))), .val (.int ((v_r4 ((kp - na) / 3)) &&& (255 : Int32)))] [(.int ((32 : Int32).toInt8.toInt32)), (.int (v_r0 kp))])) _
              refine XS.icmpNo X0.here hx rfl (hb hby d2_109) rfl (teq hc109_11).2 ?_
              show Steps p.tables e below (s₁.setTop (mkF m 112 #[.val (.ref r0), .val (.int (Int32.ofNat kp)), .val (.int (Int32.ofNat na)), .val (.int (Int32.ofNat nn)), .val (.ref r4), .val (.int p5), .val (.int (if (Int32.ofNat nn) = (0 : Int32) then (0 : Int32) else (((3 : Int32) * (Int32.ofNat nn)) - (1 : Int32)))), .val (.int (32 : Int32)), .val (.int ((Int32.ofNat kp) - (Int32.ofNat na))), .val (.int (((Int32.ofNat kp) - (Int32.ofNat na)) / (3 : Int32))), .val (.int (((Int32.ofNat kp) - (Int32.ofNat na)) % (3 : Int32))), .val (.int ((v_r4 ((kp - na) / 3)) &&& (255 : Int32)))] [])) _
              refine XS.iconst X0.here hx rfl (hb hby d2_112) ?_
              show Steps p.tables e below (s₁.setTop (mkF m 113 #[.val (.ref r0), .val (.int (Int32.ofNat kp)), .val (.int (Int32.ofNat na)), .val (.int (Int32.ofNat nn)), .val (.ref r4), .val (.int p5), .val (.int (if (Int32.ofNat nn) = (0 : Int32) then (0 : Int32) else (((3 : Int32) * (Int32.ofNat nn)) - (1 : Int32)))), .val (.int (32 : Int32)), .val (.int ((Int32.ofNat kp) - (Int32.ofNat na))), .val (.int (((Int32.ofNat kp) - (Int32.ofNat na)) / (3 : Int32))), .val (.int (((Int32.ofNat kp) - (Int32.ofNat na)) % (3 : Int32))), .val (.int ((v_r4 ((kp - na) / 3)) &&& (255 : Int32)))] [(.int (1 : Int32))])) _
              refine XS.goto X0.here hx rfl (pc0 := 113) (pc' := 117) rfl (hb hby d2_113) (by decide) (by decide) ?_
              exact kst2
            · have kst2 : Steps p.tables e below (s₁.setTop (mkF m 117 #[.val (.ref r0), .val (.int (Int32.ofNat kp)), .val (.int (Int32.ofNat na)), .val (.int (Int32.ofNat nn)), .val (.ref r4), .val (.int p5), .val (.int (if (Int32.ofNat nn) = (0 : Int32) then (0 : Int32) else (((3 : Int32) * (Int32.ofNat nn)) - (1 : Int32)))), .val (.int (32 : Int32)), .val (.int ((Int32.ofNat kp) - (Int32.ofNat na))), .val (.int (((Int32.ofNat kp) - (Int32.ofNat na)) / (3 : Int32))), .val (.int (((Int32.ofNat kp) - (Int32.ofNat na)) % (3 : Int32))), .val (.int ((v_r4 ((kp - na) / 3)) &&& (255 : Int32)))] [(.int (0 : Int32))])) t := by simpa only [if_neg hc109_11] using kst
              show Steps p.tables e below (s₁.setTop (mkF m 109 #[.val (.ref r0), .val (.int (Int32.ofNat kp)), .val (.int (Int32.ofNat na)), .val (.int (Int32.ofNat nn)), .val (.ref r4), .val (.int p5), .val (.int (if (Int32.ofNat nn) = (0 : Int32) then (0 : Int32) else (((3 : Int32) * (Int32.ofNat nn)) - (1 : Int32)))), .val (.int (32 : Int32)), .val (.int ((Int32.ofNat kp) - (Int32.ofNat na))), .val (.int (((Int32.ofNat kp) - (Int32.ofNat na)) / (3 : Int32))), .val (.int (((Int32.ofNat kp) - (Int32.ofNat na)) % (3 : Int32))), .val (.int ((v_r4 ((kp - na) / 3)) &&& (255 : Int32)))] [(.int ((32 : Int32).toInt8.toInt32)), (.int (v_r0 kp))])) _
              refine XS.icmpYes X0.here hx rfl (pc0 := 109) (pc' := 116) rfl (hb hby d2_109) rfl (feq hc109_11).2 (by decide) (by decide) ?_
              show Steps p.tables e below (s₁.setTop (mkF m 116 #[.val (.ref r0), .val (.int (Int32.ofNat kp)), .val (.int (Int32.ofNat na)), .val (.int (Int32.ofNat nn)), .val (.ref r4), .val (.int p5), .val (.int (if (Int32.ofNat nn) = (0 : Int32) then (0 : Int32) else (((3 : Int32) * (Int32.ofNat nn)) - (1 : Int32)))), .val (.int (32 : Int32)), .val (.int ((Int32.ofNat kp) - (Int32.ofNat na))), .val (.int (((Int32.ofNat kp) - (Int32.ofNat na)) / (3 : Int32))), .val (.int (((Int32.ofNat kp) - (Int32.ofNat na)) % (3 : Int32))), .val (.int ((v_r4 ((kp - na) / 3)) &&& (255 : Int32)))] [])) _
              refine XS.iconst X0.here hx rfl (hb hby d2_116) ?_
              exact kst2
          refine Goes.go sm11 ?_
          show Goes p e below s _ _ _ (s₁.setTop (mkF m 117 #[.val (.ref r0), .val (.int (Int32.ofNat kp)), .val (.int (Int32.ofNat na)), .val (.int (Int32.ofNat nn)), .val (.ref r4), .val (.int p5), .val (.int (if (Int32.ofNat nn) = (0 : Int32) then (0 : Int32) else (((3 : Int32) * (Int32.ofNat nn)) - (1 : Int32)))), .val (.int (32 : Int32)), .val (.int ((Int32.ofNat kp) - (Int32.ofNat na))), .val (.int (((Int32.ofNat kp) - (Int32.ofNat na)) / (3 : Int32))), .val (.int (((Int32.ofNat kp) - (Int32.ofNat na)) % (3 : Int32))), .val (.int ((v_r4 ((kp - na) / 3)) &&& (255 : Int32)))] [(.int (if (v_r0 kp) = ((32 : Int32).toInt8.toInt32) then (1 : Int32) else (0 : Int32)))]))
          refine Goes.retN .boolean X0 hx hlk Bd.returns (by simp) (hb hby d2_117) ?_ (by decide) (by decide)
          exact ⟨by rfl, N0, e0⟩
    · skip
      refine Goes.qi (if_neg hc25_4) ?_
      refine Goes.go (fun _ kst => XS.icmpNo X0.here hx rfl (hb hby d2_25) rfl (flt hc25_4).1 kst) ?_
      exact J28 X0 e0 N0
def own_dig (k : Nat) : Int32 := if k < 10 then Int32.ofNat (k + 48) else Int32.ofNat (k + 55)
def own_hi (x : Int32) : Nat := ((x >>> ((4 : Int32) &&& 31)) &&& (15 : Int32)).toNatClampNeg
def own_lo (x : Int32) : Nat := (x &&& (15 : Int32)).toNatClampNeg
theorem own_15 (x : Int32) : (x &&& (15 : Int32)) = Int32.ofNat (x &&& (15 : Int32)).toNatClampNeg ∧ (x &&& (15 : Int32)).toNatClampNeg < 16 := by
  obtain ⟨n, hn, en⟩ := own_andN x 15 4 (by decide) (by decide)
  rw [en, own_cl (by omega)]
  exact ⟨rfl, hn⟩
def own_pos1 (i pos : Nat) : Nat := if (0 : Int32) < Int32.ofNat i then pos + 1 else pos
def own_txt1 (i pos : Nat) (t : Nat → Int32) : Nat → Int32 := if (0 : Int32) < Int32.ofNat i then own_upd t pos (nar .byte (32 : Int32)) else t
def own_fmt (v : Nat → Int32) : Nat → Nat → Nat → (Nat → Int32) → Nat → Int32
  | 0, _, _, t => t
  | k + 1, i, pos, t => own_fmt v k (i + 1) (own_pos1 i pos + 1 + 1) (own_upd (own_upd (own_txt1 i pos t) (own_pos1 i pos) (nar .byte (own_dig (own_hi (v i))))) (own_pos1 i pos + 1) (nar .byte (own_dig (own_lo (v i)))))
def own_end : Nat → Nat → Nat → Nat
  | 0, _, pos => pos
  | k + 1, i, pos => own_end k (i + 1) (own_pos1 i pos + 1 + 1)
theorem own_end_ge : ∀ (k i pos : Nat), pos ≤ own_end k i pos
  | 0, _, pos => Nat.le_refl _
  | k + 1, i, pos => Nat.le_trans (show pos ≤ own_pos1 i pos + 1 + 1 by unfold own_pos1; split <;> omega) (own_end_ge k (i + 1) _)
def Q_rm1 (Z : State) (r0 r1 : Addr) (n : Nat) (v t : Nat → Int32) (na : Nat) (h0 : Heap) (n0 : Nat) (x : Option Value) (h : Heap) (L : List Loc) : Prop := x = some (.int (Int32.ofNat (own_end n 0 na))) ∧ Fr n0 L ∧ Keep h0 h [r1] ∧ IA Z h r1 .byte 15 (own_fmt v n 0 na t)
theorem d1_0 : decode prog_51_method_6_code 0 = .ok (.iconst 0, 1) := by decide +kernel
theorem d1_1 : decode prog_51_method_6_code 1 = .ok (.istore_n 3, 1) := by decide +kernel
theorem d1_2 : decode prog_51_method_6_code 2 = .ok (.iload_n 3, 1) := by decide +kernel
theorem d1_3 : decode prog_51_method_6_code 3 = .ok (.aload_n 0, 1) := by decide +kernel
theorem d1_4 : decode prog_51_method_6_code 4 = .ok (.arraylength, 1) := by decide +kernel
theorem d1_5 : decode prog_51_method_6_code 5 = .ok (.if_icmp .ge 55, 3) := by decide +kernel
theorem d1_8 : decode prog_51_method_6_code 8 = .ok (.iload_n 3, 1) := by decide +kernel
theorem d1_9 : decode prog_51_method_6_code 9 = .ok (.ifCond .le 11, 3) := by decide +kernel
theorem d1_12 : decode prog_51_method_6_code 12 = .ok (.aload_n 1, 1) := by decide +kernel
theorem d1_13 : decode prog_51_method_6_code 13 = .ok (.iload_n 2, 1) := by decide +kernel
theorem d1_14 : decode prog_51_method_6_code 14 = .ok (.iinc 2 1, 3) := by decide +kernel
theorem d1_17 : decode prog_51_method_6_code 17 = .ok (.bipush 32, 2) := by decide +kernel
theorem d1_19 : decode prog_51_method_6_code 19 = .ok (.bastore, 1) := by decide +kernel
theorem d1_20 : decode prog_51_method_6_code 20 = .ok (.aload_n 1, 1) := by decide +kernel
theorem d1_21 : decode prog_51_method_6_code 21 = .ok (.iload_n 2, 1) := by decide +kernel
theorem d1_22 : decode prog_51_method_6_code 22 = .ok (.iinc 2 1, 3) := by decide +kernel
theorem d1_25 : decode prog_51_method_6_code 25 = .ok (.getstatic 64, 3) := by decide +kernel
theorem d1_28 : decode prog_51_method_6_code 28 = .ok (.aload_n 0, 1) := by decide +kernel
theorem d1_29 : decode prog_51_method_6_code 29 = .ok (.iload_n 3, 1) := by decide +kernel
theorem d1_30 : decode prog_51_method_6_code 30 = .ok (.baload, 1) := by decide +kernel
theorem d1_31 : decode prog_51_method_6_code 31 = .ok (.iconst 4, 1) := by decide +kernel
theorem d1_32 : decode prog_51_method_6_code 32 = .ok (.ishr, 1) := by decide +kernel
theorem d1_33 : decode prog_51_method_6_code 33 = .ok (.bipush 15, 2) := by decide +kernel
theorem d1_35 : decode prog_51_method_6_code 35 = .ok (.iand, 1) := by decide +kernel
theorem d1_36 : decode prog_51_method_6_code 36 = .ok (.baload, 1) := by decide +kernel
theorem d1_37 : decode prog_51_method_6_code 37 = .ok (.bastore, 1) := by decide +kernel
theorem d1_38 : decode prog_51_method_6_code 38 = .ok (.aload_n 1, 1) := by decide +kernel
theorem d1_39 : decode prog_51_method_6_code 39 = .ok (.iload_n 2, 1) := by decide +kernel
theorem d1_40 : decode prog_51_method_6_code 40 = .ok (.iinc 2 1, 3) := by decide +kernel
theorem d1_43 : decode prog_51_method_6_code 43 = .ok (.getstatic 64, 3) := by decide +kernel
theorem d1_46 : decode prog_51_method_6_code 46 = .ok (.aload_n 0, 1) := by decide +kernel
theorem d1_47 : decode prog_51_method_6_code 47 = .ok (.iload_n 3, 1) := by decide +kernel
theorem d1_48 : decode prog_51_method_6_code 48 = .ok (.baload, 1) := by decide +kernel
theorem d1_49 : decode prog_51_method_6_code 49 = .ok (.bipush 15, 2) := by decide +kernel
theorem d1_51 : decode prog_51_method_6_code 51 = .ok (.iand, 1) := by decide +kernel
theorem d1_52 : decode prog_51_method_6_code 52 = .ok (.baload, 1) := by decide +kernel
theorem d1_53 : decode prog_51_method_6_code 53 = .ok (.bastore, 1) := by decide +kernel
theorem d1_54 : decode prog_51_method_6_code 54 = .ok (.iinc 3 1, 3) := by decide +kernel
theorem d1_57 : decode prog_51_method_6_code 57 = .ok (.goto (-55), 3) := by decide +kernel
theorem d1_60 : decode prog_51_method_6_code 60 = .ok (.iload_n 2, 1) := by decide +kernel
theorem d1_61 : decode prog_51_method_6_code 61 = .ok (.ireturn, 1) := by decide +kernel
theorem pn_1 : plainName "org/cardprobe/Hex" = true := by first | (simp [plainName, overriddenIn]; done) | decide +kernel
theorem ef_rm1 (m : MethodId) (x0 : Addr) (x1 : Addr) (x2 : Int32) : entryFrame m #[(.ref x0), (.ref x1), (.int x2)] 4 = mkF m 0 #[.val (.ref x0), .val (.ref x1), .val (.int x2), .unset] [] := by first | (simp [entryFrame, mkF, argsToLocals, Value.category]; done) | rfl
set_option maxRecDepth 65536 in
set_option maxHeartbeats 40000000 in
theorem rm1 (l : Launch) (Z : State) (a0 : Array Value) (hw : ∀ d ∈ tables_1, d.before a0 Z = true) (ws : List Jvm.Cond) (r0 : Addr) (r1 : Addr) (n_r0 : Nat) (v_r0 : Nat → Int32) (dg : Addr) (t : Nat → Int32) (na : Nat) (h0 : Heap) (n0 : Nat) (Z0 : n0 ≤ h0.size) (A_r0 : IA Z h0 r0 .byte n_r0 v_r0) (g_r1 : n0 ≤ r1) (A_r1 : IA Z h0 r1 .byte 15 t) (A_dg : IA Z h0 dg .byte 16 own_dig) (S_DG : Sta Z h0 "org/cardprobe/Hex" "DIGITS" "[B" (.ref dg)) (ne01 : r0 ≠ r1) (ned1 : dg ≠ r1) (E_r1 : Exa Z h0 r1 "[B") (hend : own_end n_r0 0 na ≤ 15) :
    MetFree l (⟨"org/cardprobe/Hex", "format", "([B[BI)I"⟩ : MethodName) (head1 (Jvm.Cond.code (⟨"org/cardprobe/Hex", "format", "([B[BI)I"⟩ : MethodName) prog_51_method_6_code 4 (some .int) :: ws) ({ frames := 0, cells := 0, slots := 0, locals := 0 } : Room)) (fun a U => a = #[(.ref r0), (.ref r1), (.int (Int32.ofNat na))] ∧ Z.Warmed39 U.vm ∧ U.heap = h0) (fun _ _ _ _ _ => True) (fun _ U o U' => ∃ v L, o = .returned v ∧ Q_rm1 Z r0 r1 n_r0 v_r0 t na h0 n0 v U'.heap L ∧ FrameEnd U o U' L ({ frames := 0, cells := 0, slots := 0, locals := 0 } : Room).cells ({ frames := 0, cells := 0, slots := 0, locals := 0 } : Room).slots) := by
  refine MetFree.of_bodySF (plainFor_of_name pn_1) hisR ?_
  intro p e s m args below meth c s₁ Bd hml0 hP hK
  obtain ⟨rfl, hZ, hh⟩ := hP
  have hx := Bd.exec
  have hby := Bd.bytes
  have hml : c.maxLocals = 4 := hml0
  have hown : s.vm.findClass "org/cardprobe/Hex" = some m.cls := findClass_of_methodNamed Bd.named
  have hnm := (name_of_methodNamed Bd.named Bd.method).1
  have hlk : meth.locks = false := BodyLoose.notSynchronized Bd
  have X0 : Stand p l e ({ frames := 0, cells := 0, slots := 0, locals := 0 } : Room) s m #[(.ref r0), (.ref r1), (.int (Int32.ofNat na))] below meth c s₁ [] 0 0 := Stand.of_body Bd
  have e0 : s₁.heap = h0 := by rw [← hh, Bd.state]; rfl
  have N0 := Fr.nil n0
  have K0 : Keep h0 h0 [r1] := Keep.refl _ _
  show Goes p e below s (Q_rm1 Z r0 r1 n_r0 v_r0 t na h0 n0) ({ frames := 0, cells := 0, slots := 0, locals := 0 } : Room).cells ({ frames := 0, cells := 0, slots := 0, locals := 0 } : Room).slots (s₁.setTop (entryFrame m #[(.ref r0), (.ref r1), (.int (Int32.ofNat na))] 4))
  rw [ef_rm1]
  have hn31 := A_r0.bound
  have LP : ∀ (k i pos : Nat) (tx : Nat → Int32) {TJ : State} {lj : List Loc} {hJ : Heap} (XJ : Stand p l e ({ frames := 0, cells := 0, slots := 0, locals := 0 } : Room) s m #[(.ref r0), (.ref r1), (.int (Int32.ofNat na))] below meth c TJ lj 0 0) (eJ : TJ.heap = hJ) (NJ : Fr n0 lj) (ZJ : n0 ≤ hJ.size) (KJ : Keep h0 hJ [r1]) (AJ : IA Z hJ r1 .byte 15 tx) (hk : i + k = n_r0) (hv : own_fmt v_r0 k i pos tx = own_fmt v_r0 n_r0 0 na t) (hq : own_end k i pos = own_end n_r0 0 na), Goes p e below s (Q_rm1 Z r0 r1 n_r0 v_r0 t na h0 n0) ({ frames := 0, cells := 0, slots := 0, locals := 0 } : Room).cells ({ frames := 0, cells := 0, slots := 0, locals := 0 } : Room).slots (TJ.setTop (mkF m 2 #[.val (.ref r0), .val (.ref r1), .val (.int (Int32.ofNat pos)), .val (.int (Int32.ofNat i))] [])) := by
    intro k
    induction k with
    | zero =>
      intro i pos tx TJ lj hJ XJ eJ NJ ZJ KJ AJ hk hv hq
      have A0 := A_r0.keep KJ (ninS ne01 nin0)
      have AD := A_dg.keep KJ (ninS ned1 nin0)
      have SJ := own_stak S_DG KJ E_r1
      have EJ := E_r1.keep KJ
      show Goes p e below s _ _ _ (TJ.setTop (mkF m 2 #[.val (.ref r0), .val (.ref r1), .val (.int (Int32.ofNat pos)), .val (.int (Int32.ofNat i))] []))
      refine Goes.go (fun _ kst => XS.iloadN XJ.here hx rfl (hb hby d1_2) rfl  kst) ?_
      show Goes p e below s _ _ _ (TJ.setTop (mkF m 3 #[.val (.ref r0), .val (.ref r1), .val (.int (Int32.ofNat pos)), .val (.int (Int32.ofNat i))] [(.int (Int32.ofNat i))]))
      refine Goes.go (fun _ kst => XS.aloadN XJ.here hx rfl (hb hby d1_3) rfl rfl  kst) ?_
      show Goes p e below s _ _ _ (TJ.setTop (mkF m 4 #[.val (.ref r0), .val (.ref r1), .val (.int (Int32.ofNat pos)), .val (.int (Int32.ofNat i))] [(.ref r0), (.int (Int32.ofNat i))]))
      refine Goes.go (own_len XJ hx hZ eJ A0 (g := (mkF m 4 #[.val (.ref r0), .val (.ref r1), .val (.int (Int32.ofNat pos)), .val (.int (Int32.ofNat i))] [(.ref r0), (.int (Int32.ofNat i))])) rfl rfl (hb hby d1_4)) ?_
      show Goes p e below s _ _ _ (TJ.setTop (mkF m 5 #[.val (.ref r0), .val (.ref r1), .val (.int (Int32.ofNat pos)), .val (.int (Int32.ofNat i))] [(.int (Int32.ofNat n_r0)), (.int (Int32.ofNat i))]))
      have hc5_1 : ¬ ((Int32.ofNat i) < (Int32.ofNat n_r0)) := fun q => by have := (own_lt (by omega) (by omega)).mp q; omega
      refine Goes.go (fun _ kst => XS.icmpYes XJ.here hx rfl (pc0 := 5) (pc' := 60) rfl (hb hby d1_5) rfl (flt hc5_1).2.1 (by decide) (by decide) kst) ?_
      show Goes p e below s _ _ _ (TJ.setTop (mkF m 60 #[.val (.ref r0), .val (.ref r1), .val (.int (Int32.ofNat pos)), .val (.int (Int32.ofNat i))] []))
      refine Goes.go (fun _ kst => XS.iloadN XJ.here hx rfl (hb hby d1_60) rfl  kst) ?_
      show Goes p e below s _ _ _ (TJ.setTop (mkF m 61 #[.val (.ref r0), .val (.ref r1), .val (.int (Int32.ofNat pos)), .val (.int (Int32.ofNat i))] [(.int (Int32.ofNat pos))]))
      refine Goes.retI XJ hx hlk Bd.returns (hb hby d1_61) ?_ (by decide) (by decide)
      exact (show Q_rm1 Z r0 r1 n_r0 v_r0 t na h0 n0 _ TJ.heap _ by rw [eJ]; exact ⟨by rw [← hq]; rfl, NJ, KJ, hv ▸ AJ⟩)
    | succ k ih =>
      intro i pos tx TJ lj hJ XJ eJ NJ ZJ KJ AJ hk hv hq
      have A0 := A_r0.keep KJ (ninS ne01 nin0)
      have AD := A_dg.keep KJ (ninS ned1 nin0)
      have SJ := own_stak S_DG KJ E_r1
      have EJ := E_r1.keep KJ
      have hg := own_end_ge k (i + 1) (own_pos1 i pos + 1 + 1)
      have hg3 : own_end (k + 1) i pos ≤ 15 := by rw [hq]; exact hend
      have hg2 : own_end k (i + 1) (own_pos1 i pos + 1 + 1) ≤ 15 := hg3
      show Goes p e below s _ _ _ (TJ.setTop (mkF m 2 #[.val (.ref r0), .val (.ref r1), .val (.int (Int32.ofNat pos)), .val (.int (Int32.ofNat i))] []))
      refine Goes.go (fun _ kst => XS.iloadN XJ.here hx rfl (hb hby d1_2) rfl  kst) ?_
      show Goes p e below s _ _ _ (TJ.setTop (mkF m 3 #[.val (.ref r0), .val (.ref r1), .val (.int (Int32.ofNat pos)), .val (.int (Int32.ofNat i))] [(.int (Int32.ofNat i))]))
      refine Goes.go (fun _ kst => XS.aloadN XJ.here hx rfl (hb hby d1_3) rfl rfl  kst) ?_
      show Goes p e below s _ _ _ (TJ.setTop (mkF m 4 #[.val (.ref r0), .val (.ref r1), .val (.int (Int32.ofNat pos)), .val (.int (Int32.ofNat i))] [(.ref r0), (.int (Int32.ofNat i))]))
      refine Goes.go (own_len XJ hx hZ eJ A0 (g := (mkF m 4 #[.val (.ref r0), .val (.ref r1), .val (.int (Int32.ofNat pos)), .val (.int (Int32.ofNat i))] [(.ref r0), (.int (Int32.ofNat i))])) rfl rfl (hb hby d1_4)) ?_
      show Goes p e below s _ _ _ (TJ.setTop (mkF m 5 #[.val (.ref r0), .val (.ref r1), .val (.int (Int32.ofNat pos)), .val (.int (Int32.ofNat i))] [(.int (Int32.ofNat n_r0)), (.int (Int32.ofNat i))]))
      have hc5_2 : (Int32.ofNat i) < (Int32.ofNat n_r0) := (own_lt (by omega) (by omega)).mpr (by omega)
      refine Goes.go (fun _ kst => XS.icmpNo XJ.here hx rfl (hb hby d1_5) rfl (tlt hc5_2).2.1 kst) ?_
      show Goes p e below s _ _ _ (TJ.setTop (mkF m 8 #[.val (.ref r0), .val (.ref r1), .val (.int (Int32.ofNat pos)), .val (.int (Int32.ofNat i))] []))
      refine Goes.go (fun _ kst => XS.iloadN XJ.here hx rfl (hb hby d1_8) rfl  kst) ?_
      show Goes p e below s _ _ _ (TJ.setTop (mkF m 9 #[.val (.ref r0), .val (.ref r1), .val (.int (Int32.ofNat pos)), .val (.int (Int32.ofNat i))] [(.int (Int32.ofNat i))]))
      by_cases hc9_3 : (0 : Int32) < (Int32.ofNat i)
      · skip
        refine Goes.go (fun _ kst => XS.ifNo XJ.here hx rfl (hb hby d1_9) rfl ((if0 _ _).trans (tlt hc9_3).2.2.2) kst) ?_
        have hp1 : own_pos1 i pos = pos + 1 := if_pos hc9_3
        rw [hp1] at hg hg2
        show Goes p e below s _ _ _ (TJ.setTop (mkF m 12 #[.val (.ref r0), .val (.ref r1), .val (.int (Int32.ofNat pos)), .val (.int (Int32.ofNat i))] []))
        refine Goes.go (fun _ kst => XS.aloadN XJ.here hx rfl (hb hby d1_12) rfl rfl  kst) ?_
        show Goes p e below s _ _ _ (TJ.setTop (mkF m 13 #[.val (.ref r0), .val (.ref r1), .val (.int (Int32.ofNat pos)), .val (.int (Int32.ofNat i))] [(.ref r1)]))
        refine Goes.go (fun _ kst => XS.iloadN XJ.here hx rfl (hb hby d1_13) rfl  kst) ?_
        show Goes p e below s _ _ _ (TJ.setTop (mkF m 14 #[.val (.ref r0), .val (.ref r1), .val (.int (Int32.ofNat pos)), .val (.int (Int32.ofNat i))] [(.int (Int32.ofNat pos)), (.ref r1)]))
        refine Goes.go (fun _ kst => XS.iinc XJ.here hx rfl (hb hby d1_14) rfl (l' := #[.val (.ref r0), .val (.ref r1), .val (.int ((Int32.ofNat pos) + (1 : Int32))), .val (.int (Int32.ofNat i))]) rfl kst) ?_
        rw [show (Int32.ofNat pos + (1 : Int32)) = Int32.ofNat (pos + 1) from own_add (n := 1) (by omega)]
        show Goes p e below s _ _ _ (TJ.setTop (mkF m 17 #[.val (.ref r0), .val (.ref r1), .val (.int (Int32.ofNat (pos + 1))), .val (.int (Int32.ofNat i))] [(.int (Int32.ofNat pos)), (.ref r1)]))
        refine Goes.go (fun _ kst => XS.bipush XJ.here hx rfl (hb hby d1_17) kst) ?_
        show Goes p e below s _ _ _ (TJ.setTop (mkF m 19 #[.val (.ref r0), .val (.ref r1), .val (.int (Int32.ofNat (pos + 1))), .val (.int (Int32.ofNat i))] [(.int (32 : Int32)), (.int (Int32.ofNat pos)), (.ref r1)]))
        obtain ⟨T4, h4, X4, e4, W4, A4, st4⟩ := own_stB XJ hx hZ eJ AJ (i := (pos)) rfl (by omega) (g := (mkF m 19 #[.val (.ref r0), .val (.ref r1), .val (.int (Int32.ofNat (pos + 1))), .val (.int (Int32.ofNat i))] [(.int (32 : Int32)), (.int (Int32.ofNat pos)), (.ref r1)])) rfl rfl (hb hby d1_19)
        have N4 := Fr.snoc X4 NJ g_r1
        have Z4 := Nat.le_trans ZJ (Keep.of_wr W4).1
        have K4 := Keep.wr KJ W4 (Or.inl (List.mem_of_getElem? (i := 0) rfl))
        refine Goes.go st4 ?_
        show Goes p e below s _ _ _ (T4.setTop (mkF m 20 #[.val (.ref r0), .val (.ref r1), .val (.int (Int32.ofNat (pos + 1))), .val (.int (Int32.ofNat i))] []))
        refine Goes.go (fun _ kst => XS.aloadN X4.here hx rfl (hb hby d1_20) rfl rfl  kst) ?_
        show Goes p e below s _ _ _ (T4.setTop (mkF m 21 #[.val (.ref r0), .val (.ref r1), .val (.int (Int32.ofNat (pos + 1))), .val (.int (Int32.ofNat i))] [(.ref r1)]))
        refine Goes.go (fun _ kst => XS.iloadN X4.here hx rfl (hb hby d1_21) rfl  kst) ?_
        show Goes p e below s _ _ _ (T4.setTop (mkF m 22 #[.val (.ref r0), .val (.ref r1), .val (.int (Int32.ofNat (pos + 1))), .val (.int (Int32.ofNat i))] [(.int (Int32.ofNat (pos + 1))), (.ref r1)]))
        refine Goes.go (fun _ kst => XS.iinc X4.here hx rfl (hb hby d1_22) rfl (l' := #[.val (.ref r0), .val (.ref r1), .val (.int ((Int32.ofNat (pos + 1)) + (1 : Int32))), .val (.int (Int32.ofNat i))]) rfl kst) ?_
        rw [show (Int32.ofNat (pos + 1) + (1 : Int32)) = Int32.ofNat (pos + 1 + 1) from own_add (n := 1) (by omega)]
        show Goes p e below s _ _ _ (T4.setTop (mkF m 25 #[.val (.ref r0), .val (.ref r1), .val (.int (Int32.ofNat (pos + 1 + 1))), .val (.int (Int32.ofNat i))] [(.int (Int32.ofNat (pos + 1))), (.ref r1)]))
        obtain ⟨T5, X5, e5, st5⟩ := getS2 X4 hx hZ hown (host := "") (Or.inl (hw _ (List.mem_of_getElem? (i := 9) rfl))) Via.refl e4 (SJ.wr W4) (g := (mkF m 25 #[.val (.ref r0), .val (.ref r1), .val (.int (Int32.ofNat (pos + 1 + 1))), .val (.int (Int32.ofNat i))] [(.int (Int32.ofNat (pos + 1))), (.ref r1)])) rfl (hb hby d1_25)
        refine Goes.go st5 ?_
        show Goes p e below s _ _ _ (T5.setTop (mkF m 28 #[.val (.ref r0), .val (.ref r1), .val (.int (Int32.ofNat (pos + 1 + 1))), .val (.int (Int32.ofNat i))] [(.ref dg), (.int (Int32.ofNat (pos + 1))), (.ref r1)]))
        refine Goes.go (fun _ kst => XS.aloadN X5.here hx rfl (hb hby d1_28) rfl rfl  kst) ?_
        show Goes p e below s _ _ _ (T5.setTop (mkF m 29 #[.val (.ref r0), .val (.ref r1), .val (.int (Int32.ofNat (pos + 1 + 1))), .val (.int (Int32.ofNat i))] [(.ref r0), (.ref dg), (.int (Int32.ofNat (pos + 1))), (.ref r1)]))
        refine Goes.go (fun _ kst => XS.iloadN X5.here hx rfl (hb hby d1_29) rfl  kst) ?_
        show Goes p e below s _ _ _ (T5.setTop (mkF m 30 #[.val (.ref r0), .val (.ref r1), .val (.int (Int32.ofNat (pos + 1 + 1))), .val (.int (Int32.ofNat i))] [(.int (Int32.ofNat i)), (.ref r0), (.ref dg), (.int (Int32.ofNat (pos + 1))), (.ref r1)]))
        refine Goes.go (own_ldB X5 hx hZ e5 (A0.other W4 ne01) (i := i) rfl (by omega) (g := (mkF m 30 #[.val (.ref r0), .val (.ref r1), .val (.int (Int32.ofNat (pos + 1 + 1))), .val (.int (Int32.ofNat i))] [(.int (Int32.ofNat i)), (.ref r0), (.ref dg), (.int (Int32.ofNat (pos + 1))), (.ref r1)])) rfl rfl (hb hby d1_30)) ?_
        show Goes p e below s _ _ _ (T5.setTop (mkF m 31 #[.val (.ref r0), .val (.ref r1), .val (.int (Int32.ofNat (pos + 1 + 1))), .val (.int (Int32.ofNat i))] [(.int (v_r0 i)), (.ref dg), (.int (Int32.ofNat (pos + 1))), (.ref r1)]))
        refine Goes.go (fun _ kst => XS.iconst X5.here hx rfl (hb hby d1_31) kst) ?_
        show Goes p e below s _ _ _ (T5.setTop (mkF m 32 #[.val (.ref r0), .val (.ref r1), .val (.int (Int32.ofNat (pos + 1 + 1))), .val (.int (Int32.ofNat i))] [(.int (4 : Int32)), (.int (v_r0 i)), (.ref dg), (.int (Int32.ofNat (pos + 1))), (.ref r1)]))
        refine Goes.go (fun _ kst => XS.ishr X5.here hx rfl (hb hby d1_32) rfl kst) ?_
        show Goes p e below s _ _ _ (T5.setTop (mkF m 33 #[.val (.ref r0), .val (.ref r1), .val (.int (Int32.ofNat (pos + 1 + 1))), .val (.int (Int32.ofNat i))] [(.int ((v_r0 i) >>> ((4 : Int32) &&& 31))), (.ref dg), (.int (Int32.ofNat (pos + 1))), (.ref r1)]))
        refine Goes.go (fun _ kst => XS.bipush X5.here hx rfl (hb hby d1_33) kst) ?_
        show Goes p e below s _ _ _ (T5.setTop (mkF m 35 #[.val (.ref r0), .val (.ref r1), .val (.int (Int32.ofNat (pos + 1 + 1))), .val (.int (Int32.ofNat i))] [(.int (15 : Int32)), (.int ((v_r0 i) >>> ((4 : Int32) &&& 31))), (.ref dg), (.int (Int32.ofNat (pos + 1))), (.ref r1)]))
        refine Goes.go (fun _ kst => XS.iand X5.here hx rfl (hb hby d1_35) rfl kst) ?_
        show Goes p e below s _ _ _ (T5.setTop (mkF m 36 #[.val (.ref r0), .val (.ref r1), .val (.int (Int32.ofNat (pos + 1 + 1))), .val (.int (Int32.ofNat i))] [(.int (((v_r0 i) >>> ((4 : Int32) &&& 31)) &&& (15 : Int32))), (.ref dg), (.int (Int32.ofNat (pos + 1))), (.ref r1)]))
        refine Goes.go (own_ldB X5 hx hZ e5 (AD.other W4 ned1) (i := (own_hi (v_r0 i))) (own_15 _).1 (own_15 _).2 (g := (mkF m 36 #[.val (.ref r0), .val (.ref r1), .val (.int (Int32.ofNat (pos + 1 + 1))), .val (.int (Int32.ofNat i))] [(.int (((v_r0 i) >>> ((4 : Int32) &&& 31)) &&& (15 : Int32))), (.ref dg), (.int (Int32.ofNat (pos + 1))), (.ref r1)])) rfl rfl (hb hby d1_36)) ?_
        show Goes p e below s _ _ _ (T5.setTop (mkF m 37 #[.val (.ref r0), .val (.ref r1), .val (.int (Int32.ofNat (pos + 1 + 1))), .val (.int (Int32.ofNat i))] [(.int (own_dig (own_hi (v_r0 i)))), (.int (Int32.ofNat (pos + 1))), (.ref r1)]))
        obtain ⟨T6, h6, X6, e6, W6, A6, st6⟩ := own_stB X5 hx hZ e5 A4 (i := (pos + 1)) rfl (by omega) (g := (mkF m 37 #[.val (.ref r0), .val (.ref r1), .val (.int (Int32.ofNat (pos + 1 + 1))), .val (.int (Int32.ofNat i))] [(.int (own_dig (own_hi (v_r0 i)))), (.int (Int32.ofNat (pos + 1))), (.ref r1)])) rfl rfl (hb hby d1_37)
        have N6 := Fr.snoc X6 N4 g_r1
        have Z6 := Nat.le_trans Z4 (Keep.of_wr W6).1
        have K6 := Keep.wr K4 W6 (Or.inl (List.mem_of_getElem? (i := 0) rfl))
        refine Goes.go st6 ?_
        show Goes p e below s _ _ _ (T6.setTop (mkF m 38 #[.val (.ref r0), .val (.ref r1), .val (.int (Int32.ofNat (pos + 1 + 1))), .val (.int (Int32.ofNat i))] []))
        refine Goes.go (fun _ kst => XS.aloadN X6.here hx rfl (hb hby d1_38) rfl rfl  kst) ?_
        show Goes p e below s _ _ _ (T6.setTop (mkF m 39 #[.val (.ref r0), .val (.ref r1), .val (.int (Int32.ofNat (pos + 1 + 1))), .val (.int (Int32.ofNat i))] [(.ref r1)]))
        refine Goes.go (fun _ kst => XS.iloadN X6.here hx rfl (hb hby d1_39) rfl  kst) ?_
        show Goes p e below s _ _ _ (T6.setTop (mkF m 40 #[.val (.ref r0), .val (.ref r1), .val (.int (Int32.ofNat (pos + 1 + 1))), .val (.int (Int32.ofNat i))] [(.int (Int32.ofNat (pos + 1 + 1))), (.ref r1)]))
        refine Goes.go (fun _ kst => XS.iinc X6.here hx rfl (hb hby d1_40) rfl (l' := #[.val (.ref r0), .val (.ref r1), .val (.int ((Int32.ofNat (pos + 1 + 1)) + (1 : Int32))), .val (.int (Int32.ofNat i))]) rfl kst) ?_
        rw [show (Int32.ofNat (pos + 1 + 1) + (1 : Int32)) = Int32.ofNat (pos + 1 + 1 + 1) from own_add (n := 1) (by omega)]
        show Goes p e below s _ _ _ (T6.setTop (mkF m 43 #[.val (.ref r0), .val (.ref r1), .val (.int (Int32.ofNat (pos + 1 + 1 + 1))), .val (.int (Int32.ofNat i))] [(.int (Int32.ofNat (pos + 1 + 1))), (.ref r1)]))
        obtain ⟨T7, X7, e7, st7⟩ := getS2 X6 hx hZ hown (host := "") (Or.inl (hw _ (List.mem_of_getElem? (i := 9) rfl))) Via.refl e6 ((SJ.wr W4).wr W6) (g := (mkF m 43 #[.val (.ref r0), .val (.ref r1), .val (.int (Int32.ofNat (pos + 1 + 1 + 1))), .val (.int (Int32.ofNat i))] [(.int (Int32.ofNat (pos + 1 + 1))), (.ref r1)])) rfl (hb hby d1_43)
        refine Goes.go st7 ?_
        show Goes p e below s _ _ _ (T7.setTop (mkF m 46 #[.val (.ref r0), .val (.ref r1), .val (.int (Int32.ofNat (pos + 1 + 1 + 1))), .val (.int (Int32.ofNat i))] [(.ref dg), (.int (Int32.ofNat (pos + 1 + 1))), (.ref r1)]))
        refine Goes.go (fun _ kst => XS.aloadN X7.here hx rfl (hb hby d1_46) rfl rfl  kst) ?_
        show Goes p e below s _ _ _ (T7.setTop (mkF m 47 #[.val (.ref r0), .val (.ref r1), .val (.int (Int32.ofNat (pos + 1 + 1 + 1))), .val (.int (Int32.ofNat i))] [(.ref r0), (.ref dg), (.int (Int32.ofNat (pos + 1 + 1))), (.ref r1)]))
        refine Goes.go (fun _ kst => XS.iloadN X7.here hx rfl (hb hby d1_47) rfl  kst) ?_
        show Goes p e below s _ _ _ (T7.setTop (mkF m 48 #[.val (.ref r0), .val (.ref r1), .val (.int (Int32.ofNat (pos + 1 + 1 + 1))), .val (.int (Int32.ofNat i))] [(.int (Int32.ofNat i)), (.ref r0), (.ref dg), (.int (Int32.ofNat (pos + 1 + 1))), (.ref r1)]))
        refine Goes.go (own_ldB X7 hx hZ e7 ((A0.other W4 ne01).other W6 ne01) (i := i) rfl (by omega) (g := (mkF m 48 #[.val (.ref r0), .val (.ref r1), .val (.int (Int32.ofNat (pos + 1 + 1 + 1))), .val (.int (Int32.ofNat i))] [(.int (Int32.ofNat i)), (.ref r0), (.ref dg), (.int (Int32.ofNat (pos + 1 + 1))), (.ref r1)])) rfl rfl (hb hby d1_48)) ?_
        show Goes p e below s _ _ _ (T7.setTop (mkF m 49 #[.val (.ref r0), .val (.ref r1), .val (.int (Int32.ofNat (pos + 1 + 1 + 1))), .val (.int (Int32.ofNat i))] [(.int (v_r0 i)), (.ref dg), (.int (Int32.ofNat (pos + 1 + 1))), (.ref r1)]))
        refine Goes.go (fun _ kst => XS.bipush X7.here hx rfl (hb hby d1_49) kst) ?_
        show Goes p e below s _ _ _ (T7.setTop (mkF m 51 #[.val (.ref r0), .val (.ref r1), .val (.int (Int32.ofNat (pos + 1 + 1 + 1))), .val (.int (Int32.ofNat i))] [(.int (15 : Int32)), (.int (v_r0 i)), (.ref dg), (.int (Int32.ofNat (pos + 1 + 1))), (.ref r1)]))
        refine Goes.go (fun _ kst => XS.iand X7.here hx rfl (hb hby d1_51) rfl kst) ?_
        show Goes p e below s _ _ _ (T7.setTop (mkF m 52 #[.val (.ref r0), .val (.ref r1), .val (.int (Int32.ofNat (pos + 1 + 1 + 1))), .val (.int (Int32.ofNat i))] [(.int ((v_r0 i) &&& (15 : Int32))), (.ref dg), (.int (Int32.ofNat (pos + 1 + 1))), (.ref r1)]))
        refine Goes.go (own_ldB X7 hx hZ e7 ((AD.other W4 ned1).other W6 ned1) (i := (own_lo (v_r0 i))) (own_15 _).1 (own_15 _).2 (g := (mkF m 52 #[.val (.ref r0), .val (.ref r1), .val (.int (Int32.ofNat (pos + 1 + 1 + 1))), .val (.int (Int32.ofNat i))] [(.int ((v_r0 i) &&& (15 : Int32))), (.ref dg), (.int (Int32.ofNat (pos + 1 + 1))), (.ref r1)])) rfl rfl (hb hby d1_52)) ?_
        show Goes p e below s _ _ _ (T7.setTop (mkF m 53 #[.val (.ref r0), .val (.ref r1), .val (.int (Int32.ofNat (pos + 1 + 1 + 1))), .val (.int (Int32.ofNat i))] [(.int (own_dig (own_lo (v_r0 i)))), (.int (Int32.ofNat (pos + 1 + 1))), (.ref r1)]))
        obtain ⟨T8, h8, X8, e8, W8, A8, st8⟩ := own_stB X7 hx hZ e7 A6 (i := (pos + 1 + 1)) rfl (by omega) (g := (mkF m 53 #[.val (.ref r0), .val (.ref r1), .val (.int (Int32.ofNat (pos + 1 + 1 + 1))), .val (.int (Int32.ofNat i))] [(.int (own_dig (own_lo (v_r0 i)))), (.int (Int32.ofNat (pos + 1 + 1))), (.ref r1)])) rfl rfl (hb hby d1_53)
        have N8 := Fr.snoc X8 N6 g_r1
        have Z8 := Nat.le_trans Z6 (Keep.of_wr W8).1
        have K8 := Keep.wr K6 W8 (Or.inl (List.mem_of_getElem? (i := 0) rfl))
        refine Goes.go st8 ?_
        show Goes p e below s _ _ _ (T8.setTop (mkF m 54 #[.val (.ref r0), .val (.ref r1), .val (.int (Int32.ofNat (pos + 1 + 1 + 1))), .val (.int (Int32.ofNat i))] []))
        refine Goes.go (fun _ kst => XS.iinc X8.here hx rfl (hb hby d1_54) rfl (l' := #[.val (.ref r0), .val (.ref r1), .val (.int (Int32.ofNat (pos + 1 + 1 + 1))), .val (.int ((Int32.ofNat i) + (1 : Int32)))]) rfl kst) ?_
        rw [show (Int32.ofNat i + (1 : Int32)) = Int32.ofNat (i + 1) from own_add (n := 1) (by omega)]
        show Goes p e below s _ _ _ (T8.setTop (mkF m 57 #[.val (.ref r0), .val (.ref r1), .val (.int (Int32.ofNat (pos + 1 + 1 + 1))), .val (.int (Int32.ofNat (i + 1)))] []))
        refine Goes.go (fun _ kst => XS.goto X8.here hx rfl (pc0 := 57) (pc' := 2) rfl (hb hby d1_57) (by decide) (by decide) kst) ?_
        have ht1 : own_txt1 i pos tx = own_upd tx pos (nar .byte (32 : Int32)) := if_pos hc9_3
        exact ih (i + 1) (pos + 1 + 1 + 1) _ X8 e8 N8 Z8 K8 A8 (by omega) (by rw [← hv]; simp only [own_fmt, hp1, ht1]) (by rw [← hq]; simp only [own_end, hp1])
      · skip
        refine Goes.go (fun _ kst => XS.ifYes XJ.here hx rfl (pc0 := 9) (pc' := 20) rfl (hb hby d1_9) rfl ((if0 _ _).trans (flt hc9_3).2.2.2) (by decide) (by decide) kst) ?_
        have hp1 : own_pos1 i pos = pos := if_neg hc9_3
        rw [hp1] at hg hg2
        show Goes p e below s _ _ _ (TJ.setTop (mkF m 20 #[.val (.ref r0), .val (.ref r1), .val (.int (Int32.ofNat pos)), .val (.int (Int32.ofNat i))] []))
        refine Goes.go (fun _ kst => XS.aloadN XJ.here hx rfl (hb hby d1_20) rfl rfl  kst) ?_
        show Goes p e below s _ _ _ (TJ.setTop (mkF m 21 #[.val (.ref r0), .val (.ref r1), .val (.int (Int32.ofNat pos)), .val (.int (Int32.ofNat i))] [(.ref r1)]))
        refine Goes.go (fun _ kst => XS.iloadN XJ.here hx rfl (hb hby d1_21) rfl  kst) ?_
        show Goes p e below s _ _ _ (TJ.setTop (mkF m 22 #[.val (.ref r0), .val (.ref r1), .val (.int (Int32.ofNat pos)), .val (.int (Int32.ofNat i))] [(.int (Int32.ofNat pos)), (.ref r1)]))
        refine Goes.go (fun _ kst => XS.iinc XJ.here hx rfl (hb hby d1_22) rfl (l' := #[.val (.ref r0), .val (.ref r1), .val (.int ((Int32.ofNat pos) + (1 : Int32))), .val (.int (Int32.ofNat i))]) rfl kst) ?_
        rw [show (Int32.ofNat pos + (1 : Int32)) = Int32.ofNat (pos + 1) from own_add (n := 1) (by omega)]
        show Goes p e below s _ _ _ (TJ.setTop (mkF m 25 #[.val (.ref r0), .val (.ref r1), .val (.int (Int32.ofNat (pos + 1))), .val (.int (Int32.ofNat i))] [(.int (Int32.ofNat pos)), (.ref r1)]))
        obtain ⟨T9, X9, e9, st9⟩ := getS2 XJ hx hZ hown (host := "") (Or.inl (hw _ (List.mem_of_getElem? (i := 9) rfl))) Via.refl eJ SJ (g := (mkF m 25 #[.val (.ref r0), .val (.ref r1), .val (.int (Int32.ofNat (pos + 1))), .val (.int (Int32.ofNat i))] [(.int (Int32.ofNat pos)), (.ref r1)])) rfl (hb hby d1_25)
        refine Goes.go st9 ?_
        show Goes p e below s _ _ _ (T9.setTop (mkF m 28 #[.val (.ref r0), .val (.ref r1), .val (.int (Int32.ofNat (pos + 1))), .val (.int (Int32.ofNat i))] [(.ref dg), (.int (Int32.ofNat pos)), (.ref r1)]))
        refine Goes.go (fun _ kst => XS.aloadN X9.here hx rfl (hb hby d1_28) rfl rfl  kst) ?_
        show Goes p e below s _ _ _ (T9.setTop (mkF m 29 #[.val (.ref r0), .val (.ref r1), .val (.int (Int32.ofNat (pos + 1))), .val (.int (Int32.ofNat i))] [(.ref r0), (.ref dg), (.int (Int32.ofNat pos)), (.ref r1)]))
        refine Goes.go (fun _ kst => XS.iloadN X9.here hx rfl (hb hby d1_29) rfl  kst) ?_
        show Goes p e below s _ _ _ (T9.setTop (mkF m 30 #[.val (.ref r0), .val (.ref r1), .val (.int (Int32.ofNat (pos + 1))), .val (.int (Int32.ofNat i))] [(.int (Int32.ofNat i)), (.ref r0), (.ref dg), (.int (Int32.ofNat pos)), (.ref r1)]))
        refine Goes.go (own_ldB X9 hx hZ e9 A0 (i := i) rfl (by omega) (g := (mkF m 30 #[.val (.ref r0), .val (.ref r1), .val (.int (Int32.ofNat (pos + 1))), .val (.int (Int32.ofNat i))] [(.int (Int32.ofNat i)), (.ref r0), (.ref dg), (.int (Int32.ofNat pos)), (.ref r1)])) rfl rfl (hb hby d1_30)) ?_
        show Goes p e below s _ _ _ (T9.setTop (mkF m 31 #[.val (.ref r0), .val (.ref r1), .val (.int (Int32.ofNat (pos + 1))), .val (.int (Int32.ofNat i))] [(.int (v_r0 i)), (.ref dg), (.int (Int32.ofNat pos)), (.ref r1)]))
        refine Goes.go (fun _ kst => XS.iconst X9.here hx rfl (hb hby d1_31) kst) ?_
        show Goes p e below s _ _ _ (T9.setTop (mkF m 32 #[.val (.ref r0), .val (.ref r1), .val (.int (Int32.ofNat (pos + 1))), .val (.int (Int32.ofNat i))] [(.int (4 : Int32)), (.int (v_r0 i)), (.ref dg), (.int (Int32.ofNat pos)), (.ref r1)]))
        refine Goes.go (fun _ kst => XS.ishr X9.here hx rfl (hb hby d1_32) rfl kst) ?_
        show Goes p e below s _ _ _ (T9.setTop (mkF m 33 #[.val (.ref r0), .val (.ref r1), .val (.int (Int32.ofNat (pos + 1))), .val (.int (Int32.ofNat i))] [(.int ((v_r0 i) >>> ((4 : Int32) &&& 31))), (.ref dg), (.int (Int32.ofNat pos)), (.ref r1)]))
        refine Goes.go (fun _ kst => XS.bipush X9.here hx rfl (hb hby d1_33) kst) ?_
        show Goes p e below s _ _ _ (T9.setTop (mkF m 35 #[.val (.ref r0), .val (.ref r1), .val (.int (Int32.ofNat (pos + 1))), .val (.int (Int32.ofNat i))] [(.int (15 : Int32)), (.int ((v_r0 i) >>> ((4 : Int32) &&& 31))), (.ref dg), (.int (Int32.ofNat pos)), (.ref r1)]))
        refine Goes.go (fun _ kst => XS.iand X9.here hx rfl (hb hby d1_35) rfl kst) ?_
        show Goes p e below s _ _ _ (T9.setTop (mkF m 36 #[.val (.ref r0), .val (.ref r1), .val (.int (Int32.ofNat (pos + 1))), .val (.int (Int32.ofNat i))] [(.int (((v_r0 i) >>> ((4 : Int32) &&& 31)) &&& (15 : Int32))), (.ref dg), (.int (Int32.ofNat pos)), (.ref r1)]))
        refine Goes.go (own_ldB X9 hx hZ e9 AD (i := (own_hi (v_r0 i))) (own_15 _).1 (own_15 _).2 (g := (mkF m 36 #[.val (.ref r0), .val (.ref r1), .val (.int (Int32.ofNat (pos + 1))), .val (.int (Int32.ofNat i))] [(.int (((v_r0 i) >>> ((4 : Int32) &&& 31)) &&& (15 : Int32))), (.ref dg), (.int (Int32.ofNat pos)), (.ref r1)])) rfl rfl (hb hby d1_36)) ?_
        show Goes p e below s _ _ _ (T9.setTop (mkF m 37 #[.val (.ref r0), .val (.ref r1), .val (.int (Int32.ofNat (pos + 1))), .val (.int (Int32.ofNat i))] [(.int (own_dig (own_hi (v_r0 i)))), (.int (Int32.ofNat pos)), (.ref r1)]))
        obtain ⟨T10, h10, X10, e10, W10, A10, st10⟩ := own_stB X9 hx hZ e9 AJ (i := (pos)) rfl (by omega) (g := (mkF m 37 #[.val (.ref r0), .val (.ref r1), .val (.int (Int32.ofNat (pos + 1))), .val (.int (Int32.ofNat i))] [(.int (own_dig (own_hi (v_r0 i)))), (.int (Int32.ofNat pos)), (.ref r1)])) rfl rfl (hb hby d1_37)
        have N10 := Fr.snoc X10 NJ g_r1
        have Z10 := Nat.le_trans ZJ (Keep.of_wr W10).1
        have K10 := Keep.wr KJ W10 (Or.inl (List.mem_of_getElem? (i := 0) rfl))
        refine Goes.go st10 ?_
        show Goes p e below s _ _ _ (T10.setTop (mkF m 38 #[.val (.ref r0), .val (.ref r1), .val (.int (Int32.ofNat (pos + 1))), .val (.int (Int32.ofNat i))] []))
        refine Goes.go (fun _ kst => XS.aloadN X10.here hx rfl (hb hby d1_38) rfl rfl  kst) ?_
        show Goes p e below s _ _ _ (T10.setTop (mkF m 39 #[.val (.ref r0), .val (.ref r1), .val (.int (Int32.ofNat (pos + 1))), .val (.int (Int32.ofNat i))] [(.ref r1)]))
        refine Goes.go (fun _ kst => XS.iloadN X10.here hx rfl (hb hby d1_39) rfl  kst) ?_
        show Goes p e below s _ _ _ (T10.setTop (mkF m 40 #[.val (.ref r0), .val (.ref r1), .val (.int (Int32.ofNat (pos + 1))), .val (.int (Int32.ofNat i))] [(.int (Int32.ofNat (pos + 1))), (.ref r1)]))
        refine Goes.go (fun _ kst => XS.iinc X10.here hx rfl (hb hby d1_40) rfl (l' := #[.val (.ref r0), .val (.ref r1), .val (.int ((Int32.ofNat (pos + 1)) + (1 : Int32))), .val (.int (Int32.ofNat i))]) rfl kst) ?_
        rw [show (Int32.ofNat (pos + 1) + (1 : Int32)) = Int32.ofNat (pos + 1 + 1) from own_add (n := 1) (by omega)]
        show Goes p e below s _ _ _ (T10.setTop (mkF m 43 #[.val (.ref r0), .val (.ref r1), .val (.int (Int32.ofNat (pos + 1 + 1))), .val (.int (Int32.ofNat i))] [(.int (Int32.ofNat (pos + 1))), (.ref r1)]))
        obtain ⟨T11, X11, e11, st11⟩ := getS2 X10 hx hZ hown (host := "") (Or.inl (hw _ (List.mem_of_getElem? (i := 9) rfl))) Via.refl e10 (SJ.wr W10) (g := (mkF m 43 #[.val (.ref r0), .val (.ref r1), .val (.int (Int32.ofNat (pos + 1 + 1))), .val (.int (Int32.ofNat i))] [(.int (Int32.ofNat (pos + 1))), (.ref r1)])) rfl (hb hby d1_43)
        refine Goes.go st11 ?_
        show Goes p e below s _ _ _ (T11.setTop (mkF m 46 #[.val (.ref r0), .val (.ref r1), .val (.int (Int32.ofNat (pos + 1 + 1))), .val (.int (Int32.ofNat i))] [(.ref dg), (.int (Int32.ofNat (pos + 1))), (.ref r1)]))
        refine Goes.go (fun _ kst => XS.aloadN X11.here hx rfl (hb hby d1_46) rfl rfl  kst) ?_
        show Goes p e below s _ _ _ (T11.setTop (mkF m 47 #[.val (.ref r0), .val (.ref r1), .val (.int (Int32.ofNat (pos + 1 + 1))), .val (.int (Int32.ofNat i))] [(.ref r0), (.ref dg), (.int (Int32.ofNat (pos + 1))), (.ref r1)]))
        refine Goes.go (fun _ kst => XS.iloadN X11.here hx rfl (hb hby d1_47) rfl  kst) ?_
        show Goes p e below s _ _ _ (T11.setTop (mkF m 48 #[.val (.ref r0), .val (.ref r1), .val (.int (Int32.ofNat (pos + 1 + 1))), .val (.int (Int32.ofNat i))] [(.int (Int32.ofNat i)), (.ref r0), (.ref dg), (.int (Int32.ofNat (pos + 1))), (.ref r1)]))
        refine Goes.go (own_ldB X11 hx hZ e11 (A0.other W10 ne01) (i := i) rfl (by omega) (g := (mkF m 48 #[.val (.ref r0), .val (.ref r1), .val (.int (Int32.ofNat (pos + 1 + 1))), .val (.int (Int32.ofNat i))] [(.int (Int32.ofNat i)), (.ref r0), (.ref dg), (.int (Int32.ofNat (pos + 1))), (.ref r1)])) rfl rfl (hb hby d1_48)) ?_
        show Goes p e below s _ _ _ (T11.setTop (mkF m 49 #[.val (.ref r0), .val (.ref r1), .val (.int (Int32.ofNat (pos + 1 + 1))), .val (.int (Int32.ofNat i))] [(.int (v_r0 i)), (.ref dg), (.int (Int32.ofNat (pos + 1))), (.ref r1)]))
        refine Goes.go (fun _ kst => XS.bipush X11.here hx rfl (hb hby d1_49) kst) ?_
        show Goes p e below s _ _ _ (T11.setTop (mkF m 51 #[.val (.ref r0), .val (.ref r1), .val (.int (Int32.ofNat (pos + 1 + 1))), .val (.int (Int32.ofNat i))] [(.int (15 : Int32)), (.int (v_r0 i)), (.ref dg), (.int (Int32.ofNat (pos + 1))), (.ref r1)]))
        refine Goes.go (fun _ kst => XS.iand X11.here hx rfl (hb hby d1_51) rfl kst) ?_
        show Goes p e below s _ _ _ (T11.setTop (mkF m 52 #[.val (.ref r0), .val (.ref r1), .val (.int (Int32.ofNat (pos + 1 + 1))), .val (.int (Int32.ofNat i))] [(.int ((v_r0 i) &&& (15 : Int32))), (.ref dg), (.int (Int32.ofNat (pos + 1))), (.ref r1)]))
        refine Goes.go (own_ldB X11 hx hZ e11 (AD.other W10 ned1) (i := (own_lo (v_r0 i))) (own_15 _).1 (own_15 _).2 (g := (mkF m 52 #[.val (.ref r0), .val (.ref r1), .val (.int (Int32.ofNat (pos + 1 + 1))), .val (.int (Int32.ofNat i))] [(.int ((v_r0 i) &&& (15 : Int32))), (.ref dg), (.int (Int32.ofNat (pos + 1))), (.ref r1)])) rfl rfl (hb hby d1_52)) ?_
        show Goes p e below s _ _ _ (T11.setTop (mkF m 53 #[.val (.ref r0), .val (.ref r1), .val (.int (Int32.ofNat (pos + 1 + 1))), .val (.int (Int32.ofNat i))] [(.int (own_dig (own_lo (v_r0 i)))), (.int (Int32.ofNat (pos + 1))), (.ref r1)]))
        obtain ⟨T12, h12, X12, e12, W12, A12, st12⟩ := own_stB X11 hx hZ e11 A10 (i := (pos + 1)) rfl (by omega) (g := (mkF m 53 #[.val (.ref r0), .val (.ref r1), .val (.int (Int32.ofNat (pos + 1 + 1))), .val (.int (Int32.ofNat i))] [(.int (own_dig (own_lo (v_r0 i)))), (.int (Int32.ofNat (pos + 1))), (.ref r1)])) rfl rfl (hb hby d1_53)
        have N12 := Fr.snoc X12 N10 g_r1
        have Z12 := Nat.le_trans Z10 (Keep.of_wr W12).1
        have K12 := Keep.wr K10 W12 (Or.inl (List.mem_of_getElem? (i := 0) rfl))
        refine Goes.go st12 ?_
        show Goes p e below s _ _ _ (T12.setTop (mkF m 54 #[.val (.ref r0), .val (.ref r1), .val (.int (Int32.ofNat (pos + 1 + 1))), .val (.int (Int32.ofNat i))] []))
        refine Goes.go (fun _ kst => XS.iinc X12.here hx rfl (hb hby d1_54) rfl (l' := #[.val (.ref r0), .val (.ref r1), .val (.int (Int32.ofNat (pos + 1 + 1))), .val (.int ((Int32.ofNat i) + (1 : Int32)))]) rfl kst) ?_
        rw [show (Int32.ofNat i + (1 : Int32)) = Int32.ofNat (i + 1) from own_add (n := 1) (by omega)]
        show Goes p e below s _ _ _ (T12.setTop (mkF m 57 #[.val (.ref r0), .val (.ref r1), .val (.int (Int32.ofNat (pos + 1 + 1))), .val (.int (Int32.ofNat (i + 1)))] []))
        refine Goes.go (fun _ kst => XS.goto X12.here hx rfl (pc0 := 57) (pc' := 2) rfl (hb hby d1_57) (by decide) (by decide) kst) ?_
        have ht1 : own_txt1 i pos tx = tx := if_neg hc9_3
        exact ih (i + 1) (pos + 1 + 1) _ X12 e12 N12 Z12 K12 A12 (by omega) (by rw [← hv]; simp only [own_fmt, hp1, ht1]) (by rw [← hq]; simp only [own_end, hp1])
  show Goes p e below s _ _ _ (s₁.setTop (mkF m 0 #[.val (.ref r0), .val (.ref r1), .val (.int (Int32.ofNat na)), .unset] []))
  refine Goes.go (fun _ kst => XS.iconst X0.here hx rfl (hb hby d1_0) kst) ?_
  show Goes p e below s _ _ _ (s₁.setTop (mkF m 1 #[.val (.ref r0), .val (.ref r1), .val (.int (Int32.ofNat na)), .unset] [(.int (0 : Int32))]))
  refine Goes.go (fun _ kst => XS.istoreN X0.here hx rfl (hb hby d1_1) rfl (l' := #[.val (.ref r0), .val (.ref r1), .val (.int (Int32.ofNat na)), .val (.int (0 : Int32))]) rfl kst) ?_
  exact LP n_r0 0 na t X0 e0 N0 Z0 K0 A_r1 (by omega) rfl rfl
theorem own_e1 {n a : Nat} (hn : n ≤ 4) (ha : a ≤ 3) : Int32.ofNat (own_end n 0 a) = Int32.ofNat a + (if Int32.ofNat n = (0 : Int32) then (0 : Int32) else (((3 : Int32) * Int32.ofNat n) - (1 : Int32))) := by
  have T : ∀ (n : Fin 5) (a : Fin 4), Int32.ofNat (own_end n.val 0 a.val) = Int32.ofNat a.val + (if Int32.ofNat n.val = (0 : Int32) then (0 : Int32) else (((3 : Int32) * Int32.ofNat n.val) - (1 : Int32))) := by decide +kernel
  exact T ⟨n, by omega⟩ ⟨a, by omega⟩
theorem own_e2 {n a : Nat} (hn : n ≤ 4) (ha : a ≤ 3) : own_end n 0 a ≤ 15 := by
  have T : ∀ (n : Fin 5) (a : Fin 4), own_end n.val 0 a.val ≤ 15 := by decide +kernel
  exact T ⟨n, by omega⟩ ⟨a, by omega⟩
theorem own_n5 (x : Int32) : ∃ n : Nat, n ≤ 4 ∧ ((x &&& (7 : Int32)) % (5 : Int32)) = Int32.ofNat n := by
  obtain ⟨m, hm, em⟩ := own_andN x 7 3 (by decide) (by decide)
  rw [em]
  have T : ∀ m : Fin 8, Int32.ofNat m.val % (5 : Int32) = Int32.ofNat (m.val % 5) := by decide +kernel
  exact ⟨m % 5, by omega, T ⟨m, hm⟩⟩
theorem own_nb (x : Int32) : nar .byte (nar .byte x) = nar .byte x := by
  show (x.toInt8.toInt32).toInt8.toInt32 = x.toInt8.toInt32
  rw [Int8.toInt8_toInt32]
theorem own_nand (x : Int32) : nar .byte (x &&& (255 : Int32)) = nar .byte x := by
  show ((x &&& (255 : Int32)).toInt8).toInt32 = x.toInt8.toInt32
  rw [Int32.toInt8_and, show (255 : Int32).toInt8 = -1 from by decide, Int8.and_neg_one]
set_option maxRecDepth 65536 in
theorem own_hexT : ∀ b : Fin 256, nar .byte (own_dig (own_hi (nar .byte (Int32.ofNat b.val)))) = (f3 ((((nar .byte (Int32.ofNat b.val)) &&& (255 : Int32)).toUInt32 >>> ((4 : Int32) &&& 31).toUInt32).toInt32)).toInt8.toInt32 ∧ nar .byte (own_dig (own_lo (nar .byte (Int32.ofNat b.val)))) = (f3 (((nar .byte (Int32.ofNat b.val)) &&& (255 : Int32)) &&& (15 : Int32))).toInt8.toInt32 := by decide +kernel
theorem own_hex {x : Int32} (h : nar .byte x = x) : nar .byte (own_dig (own_hi x)) = (f3 (((x &&& (255 : Int32)).toUInt32 >>> ((4 : Int32) &&& 31).toUInt32).toInt32)).toInt8.toInt32 ∧ nar .byte (own_dig (own_lo x)) = (f3 ((x &&& (255 : Int32)) &&& (15 : Int32))).toInt8.toInt32 := by
  obtain ⟨b, hb, eb⟩ := own_andN x 255 8 (by decide) (by decide)
  have e : nar .byte (Int32.ofNat b) = x := by rw [← eb, own_nand, h]
  have T := own_hexT ⟨b, hb⟩
  dsimp only at T
  rw [e] at T
  exact T
section Cells
variable {r v : Addr} {fill : Int32} {nt nv : Nat} {u vv : Nat → Int32} {kp na nn : Nat}
theorem own_one : nar .boolean (1 : Int32) = 1 := rfl
theorem own_o1 (h : Int32.ofNat kp < Int32.ofNat na) (hu : u kp = nar .byte fill) : f2 r v fill nt u nv vv kp na nn = 1 := by
  unfold f2 f2_28; rw [if_pos h, hu, if_pos (show nar .byte fill = fill.toInt8.toInt32 from rfl), own_one]
theorem own_o2 (h : ¬ Int32.ofNat kp < Int32.ofNat na) (h2 : ¬ Int32.ofNat kp < Int32.ofNat na + (if Int32.ofNat nn = (0 : Int32) then (0 : Int32) else (((3 : Int32) * Int32.ofNat nn) - (1 : Int32)))) (hu : u kp = nar .byte fill) : f2 r v fill nt u nv vv kp na nn = 1 := by
  unfold f2 f2_28; rw [if_neg h, if_neg h2, hu, if_pos (show nar .byte fill = fill.toInt8.toInt32 from rfl), own_one]
theorem own_i0 (h : ¬ Int32.ofNat kp < Int32.ofNat na) (h2 : Int32.ofNat kp < Int32.ofNat na + (if Int32.ofNat nn = (0 : Int32) then (0 : Int32) else (((3 : Int32) * Int32.ofNat nn) - (1 : Int32)))) (h3 : ((Int32.ofNat kp - Int32.ofNat na) % (3 : Int32)) = (0 : Int32)) (hb : nar .byte (vv ((kp - na) / 3)) = vv ((kp - na) / 3)) (hu : u kp = nar .byte (own_dig (own_hi (vv ((kp - na) / 3))))) : f2 r v fill nt u nv vv kp na nn = 1 := by
  unfold f2; rw [if_neg h, if_pos h2, if_pos h3, hu, if_pos (own_hex hb).1, own_one]
theorem own_i1 (h : ¬ Int32.ofNat kp < Int32.ofNat na) (h2 : Int32.ofNat kp < Int32.ofNat na + (if Int32.ofNat nn = (0 : Int32) then (0 : Int32) else (((3 : Int32) * Int32.ofNat nn) - (1 : Int32)))) (h3 : ¬ ((Int32.ofNat kp - Int32.ofNat na) % (3 : Int32)) = (0 : Int32)) (h4 : ((Int32.ofNat kp - Int32.ofNat na) % (3 : Int32)) = (1 : Int32)) (hb : nar .byte (vv ((kp - na) / 3)) = vv ((kp - na) / 3)) (hu : u kp = nar .byte (own_dig (own_lo (vv ((kp - na) / 3))))) : f2 r v fill nt u nv vv kp na nn = 1 := by
  unfold f2; rw [if_neg h, if_pos h2, if_neg h3, if_pos h4, hu, if_pos (own_hex hb).2, own_one]
theorem own_i2 (h : ¬ Int32.ofNat kp < Int32.ofNat na) (h2 : Int32.ofNat kp < Int32.ofNat na + (if Int32.ofNat nn = (0 : Int32) then (0 : Int32) else (((3 : Int32) * Int32.ofNat nn) - (1 : Int32)))) (h3 : ¬ ((Int32.ofNat kp - Int32.ofNat na) % (3 : Int32)) = (0 : Int32)) (h4 : ¬ ((Int32.ofNat kp - Int32.ofNat na) % (3 : Int32)) = (1 : Int32)) (hu : u kp = nar .byte (32 : Int32)) : f2 r v fill nt u nv vv kp na nn = 1 := by
  unfold f2; rw [if_neg h, if_pos h2, if_neg h3, if_neg h4, hu, if_pos (show nar .byte (32 : Int32) = (32 : Int32).toInt8.toInt32 from rfl), own_one]
end Cells
theorem own_c0 {r v : Addr} {fill : Int32} {vv tt : Nat → Int32} {na nn : Nat} (ha : na ≤ 3) (hn : nn ≤ 4) (hb : ∀ i, i < 4 → nar .byte (vv i) = vv i) (ht : ∀ i, i < 15 → tt i = nar .byte fill) : f2 r v fill 15 (own_fmt vv nn 0 na tt) 4 vv 0 na nn = 1 := by
  have ha' : na = 0 ∨ na = 1 ∨ na = 2 ∨ na = 3 := by omega
  have hn' : nn = 0 ∨ nn = 1 ∨ nn = 2 ∨ nn = 3 ∨ nn = 4 := by omega
  rcases ha' with rfl | rfl | rfl | rfl <;> rcases hn' with rfl | rfl | rfl | rfl | rfl
  · exact own_o2 (by decide) (by decide) ((rfl : own_fmt vv 0 0 0 tt 0 = tt 0).trans (ht 0 (by decide)))
  · exact own_i0 (by decide) (by decide) (by decide) (hb 0 (by decide)) rfl
  · exact own_i0 (by decide) (by decide) (by decide) (hb 0 (by decide)) rfl
  · exact own_i0 (by decide) (by decide) (by decide) (hb 0 (by decide)) rfl
  · exact own_i0 (by decide) (by decide) (by decide) (hb 0 (by decide)) rfl
  · exact own_o1 (by decide) ((rfl : own_fmt vv 0 0 1 tt 0 = tt 0).trans (ht 0 (by decide)))
  · exact own_o1 (by decide) ((rfl : own_fmt vv 1 0 1 tt 0 = tt 0).trans (ht 0 (by decide)))
  · exact own_o1 (by decide) ((rfl : own_fmt vv 2 0 1 tt 0 = tt 0).trans (ht 0 (by decide)))
  · exact own_o1 (by decide) ((rfl : own_fmt vv 3 0 1 tt 0 = tt 0).trans (ht 0 (by decide)))
  · exact own_o1 (by decide) ((rfl : own_fmt vv 4 0 1 tt 0 = tt 0).trans (ht 0 (by decide)))
  · exact own_o1 (by decide) ((rfl : own_fmt vv 0 0 2 tt 0 = tt 0).trans (ht 0 (by decide)))
  · exact own_o1 (by decide) ((rfl : own_fmt vv 1 0 2 tt 0 = tt 0).trans (ht 0 (by decide)))
  · exact own_o1 (by decide) ((rfl : own_fmt vv 2 0 2 tt 0 = tt 0).trans (ht 0 (by decide)))
  · exact own_o1 (by decide) ((rfl : own_fmt vv 3 0 2 tt 0 = tt 0).trans (ht 0 (by decide)))
  · exact own_o1 (by decide) ((rfl : own_fmt vv 4 0 2 tt 0 = tt 0).trans (ht 0 (by decide)))
  · exact own_o1 (by decide) ((rfl : own_fmt vv 0 0 3 tt 0 = tt 0).trans (ht 0 (by decide)))
  · exact own_o1 (by decide) ((rfl : own_fmt vv 1 0 3 tt 0 = tt 0).trans (ht 0 (by decide)))
  · exact own_o1 (by decide) ((rfl : own_fmt vv 2 0 3 tt 0 = tt 0).trans (ht 0 (by decide)))
  · exact own_o1 (by decide) ((rfl : own_fmt vv 3 0 3 tt 0 = tt 0).trans (ht 0 (by decide)))
  · exact own_o1 (by decide) ((rfl : own_fmt vv 4 0 3 tt 0 = tt 0).trans (ht 0 (by decide)))
theorem own_c1 {r v : Addr} {fill : Int32} {vv tt : Nat → Int32} {na nn : Nat} (ha : na ≤ 3) (hn : nn ≤ 4) (hb : ∀ i, i < 4 → nar .byte (vv i) = vv i) (ht : ∀ i, i < 15 → tt i = nar .byte fill) : f2 r v fill 15 (own_fmt vv nn 0 na tt) 4 vv 1 na nn = 1 := by
  have ha' : na = 0 ∨ na = 1 ∨ na = 2 ∨ na = 3 := by omega
  have hn' : nn = 0 ∨ nn = 1 ∨ nn = 2 ∨ nn = 3 ∨ nn = 4 := by omega
  rcases ha' with rfl | rfl | rfl | rfl <;> rcases hn' with rfl | rfl | rfl | rfl | rfl
  · exact own_o2 (by decide) (by decide) ((rfl : own_fmt vv 0 0 0 tt 1 = tt 1).trans (ht 1 (by decide)))
  · exact own_i1 (by decide) (by decide) (by decide) (by decide) (hb 0 (by decide)) rfl
  · exact own_i1 (by decide) (by decide) (by decide) (by decide) (hb 0 (by decide)) rfl
  · exact own_i1 (by decide) (by decide) (by decide) (by decide) (hb 0 (by decide)) rfl
  · exact own_i1 (by decide) (by decide) (by decide) (by decide) (hb 0 (by decide)) rfl
  · exact own_o2 (by decide) (by decide) ((rfl : own_fmt vv 0 0 1 tt 1 = tt 1).trans (ht 1 (by decide)))
  · exact own_i0 (by decide) (by decide) (by decide) (hb 0 (by decide)) rfl
  · exact own_i0 (by decide) (by decide) (by decide) (hb 0 (by decide)) rfl
  · exact own_i0 (by decide) (by decide) (by decide) (hb 0 (by decide)) rfl
  · exact own_i0 (by decide) (by decide) (by decide) (hb 0 (by decide)) rfl
  · exact own_o1 (by decide) ((rfl : own_fmt vv 0 0 2 tt 1 = tt 1).trans (ht 1 (by decide)))
  · exact own_o1 (by decide) ((rfl : own_fmt vv 1 0 2 tt 1 = tt 1).trans (ht 1 (by decide)))
  · exact own_o1 (by decide) ((rfl : own_fmt vv 2 0 2 tt 1 = tt 1).trans (ht 1 (by decide)))
  · exact own_o1 (by decide) ((rfl : own_fmt vv 3 0 2 tt 1 = tt 1).trans (ht 1 (by decide)))
  · exact own_o1 (by decide) ((rfl : own_fmt vv 4 0 2 tt 1 = tt 1).trans (ht 1 (by decide)))
  · exact own_o1 (by decide) ((rfl : own_fmt vv 0 0 3 tt 1 = tt 1).trans (ht 1 (by decide)))
  · exact own_o1 (by decide) ((rfl : own_fmt vv 1 0 3 tt 1 = tt 1).trans (ht 1 (by decide)))
  · exact own_o1 (by decide) ((rfl : own_fmt vv 2 0 3 tt 1 = tt 1).trans (ht 1 (by decide)))
  · exact own_o1 (by decide) ((rfl : own_fmt vv 3 0 3 tt 1 = tt 1).trans (ht 1 (by decide)))
  · exact own_o1 (by decide) ((rfl : own_fmt vv 4 0 3 tt 1 = tt 1).trans (ht 1 (by decide)))
theorem own_c2 {r v : Addr} {fill : Int32} {vv tt : Nat → Int32} {na nn : Nat} (ha : na ≤ 3) (hn : nn ≤ 4) (hb : ∀ i, i < 4 → nar .byte (vv i) = vv i) (ht : ∀ i, i < 15 → tt i = nar .byte fill) : f2 r v fill 15 (own_fmt vv nn 0 na tt) 4 vv 2 na nn = 1 := by
  have ha' : na = 0 ∨ na = 1 ∨ na = 2 ∨ na = 3 := by omega
  have hn' : nn = 0 ∨ nn = 1 ∨ nn = 2 ∨ nn = 3 ∨ nn = 4 := by omega
  rcases ha' with rfl | rfl | rfl | rfl <;> rcases hn' with rfl | rfl | rfl | rfl | rfl
  · exact own_o2 (by decide) (by decide) ((rfl : own_fmt vv 0 0 0 tt 2 = tt 2).trans (ht 2 (by decide)))
  · exact own_o2 (by decide) (by decide) ((rfl : own_fmt vv 1 0 0 tt 2 = tt 2).trans (ht 2 (by decide)))
  · exact own_i2 (by decide) (by decide) (by decide) (by decide) rfl
  · exact own_i2 (by decide) (by decide) (by decide) (by decide) rfl
  · exact own_i2 (by decide) (by decide) (by decide) (by decide) rfl
  · exact own_o2 (by decide) (by decide) ((rfl : own_fmt vv 0 0 1 tt 2 = tt 2).trans (ht 2 (by decide)))
  · exact own_i1 (by decide) (by decide) (by decide) (by decide) (hb 0 (by decide)) rfl
  · exact own_i1 (by decide) (by decide) (by decide) (by decide) (hb 0 (by decide)) rfl
  · exact own_i1 (by decide) (by decide) (by decide) (by decide) (hb 0 (by decide)) rfl
  · exact own_i1 (by decide) (by decide) (by decide) (by decide) (hb 0 (by decide)) rfl
  · exact own_o2 (by decide) (by decide) ((rfl : own_fmt vv 0 0 2 tt 2 = tt 2).trans (ht 2 (by decide)))
  · exact own_i0 (by decide) (by decide) (by decide) (hb 0 (by decide)) rfl
  · exact own_i0 (by decide) (by decide) (by decide) (hb 0 (by decide)) rfl
  · exact own_i0 (by decide) (by decide) (by decide) (hb 0 (by decide)) rfl
  · exact own_i0 (by decide) (by decide) (by decide) (hb 0 (by decide)) rfl
  · exact own_o1 (by decide) ((rfl : own_fmt vv 0 0 3 tt 2 = tt 2).trans (ht 2 (by decide)))
  · exact own_o1 (by decide) ((rfl : own_fmt vv 1 0 3 tt 2 = tt 2).trans (ht 2 (by decide)))
  · exact own_o1 (by decide) ((rfl : own_fmt vv 2 0 3 tt 2 = tt 2).trans (ht 2 (by decide)))
  · exact own_o1 (by decide) ((rfl : own_fmt vv 3 0 3 tt 2 = tt 2).trans (ht 2 (by decide)))
  · exact own_o1 (by decide) ((rfl : own_fmt vv 4 0 3 tt 2 = tt 2).trans (ht 2 (by decide)))
theorem own_c3 {r v : Addr} {fill : Int32} {vv tt : Nat → Int32} {na nn : Nat} (ha : na ≤ 3) (hn : nn ≤ 4) (hb : ∀ i, i < 4 → nar .byte (vv i) = vv i) (ht : ∀ i, i < 15 → tt i = nar .byte fill) : f2 r v fill 15 (own_fmt vv nn 0 na tt) 4 vv 3 na nn = 1 := by
  have ha' : na = 0 ∨ na = 1 ∨ na = 2 ∨ na = 3 := by omega
  have hn' : nn = 0 ∨ nn = 1 ∨ nn = 2 ∨ nn = 3 ∨ nn = 4 := by omega
  rcases ha' with rfl | rfl | rfl | rfl <;> rcases hn' with rfl | rfl | rfl | rfl | rfl
  · exact own_o2 (by decide) (by decide) ((rfl : own_fmt vv 0 0 0 tt 3 = tt 3).trans (ht 3 (by decide)))
  · exact own_o2 (by decide) (by decide) ((rfl : own_fmt vv 1 0 0 tt 3 = tt 3).trans (ht 3 (by decide)))
  · exact own_i0 (by decide) (by decide) (by decide) (hb 1 (by decide)) rfl
  · exact own_i0 (by decide) (by decide) (by decide) (hb 1 (by decide)) rfl
  · exact own_i0 (by decide) (by decide) (by decide) (hb 1 (by decide)) rfl
  · exact own_o2 (by decide) (by decide) ((rfl : own_fmt vv 0 0 1 tt 3 = tt 3).trans (ht 3 (by decide)))
  · exact own_o2 (by decide) (by decide) ((rfl : own_fmt vv 1 0 1 tt 3 = tt 3).trans (ht 3 (by decide)))
  · exact own_i2 (by decide) (by decide) (by decide) (by decide) rfl
  · exact own_i2 (by decide) (by decide) (by decide) (by decide) rfl
  · exact own_i2 (by decide) (by decide) (by decide) (by decide) rfl
  · exact own_o2 (by decide) (by decide) ((rfl : own_fmt vv 0 0 2 tt 3 = tt 3).trans (ht 3 (by decide)))
  · exact own_i1 (by decide) (by decide) (by decide) (by decide) (hb 0 (by decide)) rfl
  · exact own_i1 (by decide) (by decide) (by decide) (by decide) (hb 0 (by decide)) rfl
  · exact own_i1 (by decide) (by decide) (by decide) (by decide) (hb 0 (by decide)) rfl
  · exact own_i1 (by decide) (by decide) (by decide) (by decide) (hb 0 (by decide)) rfl
  · exact own_o2 (by decide) (by decide) ((rfl : own_fmt vv 0 0 3 tt 3 = tt 3).trans (ht 3 (by decide)))
  · exact own_i0 (by decide) (by decide) (by decide) (hb 0 (by decide)) rfl
  · exact own_i0 (by decide) (by decide) (by decide) (hb 0 (by decide)) rfl
  · exact own_i0 (by decide) (by decide) (by decide) (hb 0 (by decide)) rfl
  · exact own_i0 (by decide) (by decide) (by decide) (hb 0 (by decide)) rfl
theorem own_c4 {r v : Addr} {fill : Int32} {vv tt : Nat → Int32} {na nn : Nat} (ha : na ≤ 3) (hn : nn ≤ 4) (hb : ∀ i, i < 4 → nar .byte (vv i) = vv i) (ht : ∀ i, i < 15 → tt i = nar .byte fill) : f2 r v fill 15 (own_fmt vv nn 0 na tt) 4 vv 4 na nn = 1 := by
  have ha' : na = 0 ∨ na = 1 ∨ na = 2 ∨ na = 3 := by omega
  have hn' : nn = 0 ∨ nn = 1 ∨ nn = 2 ∨ nn = 3 ∨ nn = 4 := by omega
  rcases ha' with rfl | rfl | rfl | rfl <;> rcases hn' with rfl | rfl | rfl | rfl | rfl
  · exact own_o2 (by decide) (by decide) ((rfl : own_fmt vv 0 0 0 tt 4 = tt 4).trans (ht 4 (by decide)))
  · exact own_o2 (by decide) (by decide) ((rfl : own_fmt vv 1 0 0 tt 4 = tt 4).trans (ht 4 (by decide)))
  · exact own_i1 (by decide) (by decide) (by decide) (by decide) (hb 1 (by decide)) rfl
  · exact own_i1 (by decide) (by decide) (by decide) (by decide) (hb 1 (by decide)) rfl
  · exact own_i1 (by decide) (by decide) (by decide) (by decide) (hb 1 (by decide)) rfl
  · exact own_o2 (by decide) (by decide) ((rfl : own_fmt vv 0 0 1 tt 4 = tt 4).trans (ht 4 (by decide)))
  · exact own_o2 (by decide) (by decide) ((rfl : own_fmt vv 1 0 1 tt 4 = tt 4).trans (ht 4 (by decide)))
  · exact own_i0 (by decide) (by decide) (by decide) (hb 1 (by decide)) rfl
  · exact own_i0 (by decide) (by decide) (by decide) (hb 1 (by decide)) rfl
  · exact own_i0 (by decide) (by decide) (by decide) (hb 1 (by decide)) rfl
  · exact own_o2 (by decide) (by decide) ((rfl : own_fmt vv 0 0 2 tt 4 = tt 4).trans (ht 4 (by decide)))
  · exact own_o2 (by decide) (by decide) ((rfl : own_fmt vv 1 0 2 tt 4 = tt 4).trans (ht 4 (by decide)))
  · exact own_i2 (by decide) (by decide) (by decide) (by decide) rfl
  · exact own_i2 (by decide) (by decide) (by decide) (by decide) rfl
  · exact own_i2 (by decide) (by decide) (by decide) (by decide) rfl
  · exact own_o2 (by decide) (by decide) ((rfl : own_fmt vv 0 0 3 tt 4 = tt 4).trans (ht 4 (by decide)))
  · exact own_i1 (by decide) (by decide) (by decide) (by decide) (hb 0 (by decide)) rfl
  · exact own_i1 (by decide) (by decide) (by decide) (by decide) (hb 0 (by decide)) rfl
  · exact own_i1 (by decide) (by decide) (by decide) (by decide) (hb 0 (by decide)) rfl
  · exact own_i1 (by decide) (by decide) (by decide) (by decide) (hb 0 (by decide)) rfl
theorem own_c5 {r v : Addr} {fill : Int32} {vv tt : Nat → Int32} {na nn : Nat} (ha : na ≤ 3) (hn : nn ≤ 4) (hb : ∀ i, i < 4 → nar .byte (vv i) = vv i) (ht : ∀ i, i < 15 → tt i = nar .byte fill) : f2 r v fill 15 (own_fmt vv nn 0 na tt) 4 vv 5 na nn = 1 := by
  have ha' : na = 0 ∨ na = 1 ∨ na = 2 ∨ na = 3 := by omega
  have hn' : nn = 0 ∨ nn = 1 ∨ nn = 2 ∨ nn = 3 ∨ nn = 4 := by omega
  rcases ha' with rfl | rfl | rfl | rfl <;> rcases hn' with rfl | rfl | rfl | rfl | rfl
  · exact own_o2 (by decide) (by decide) ((rfl : own_fmt vv 0 0 0 tt 5 = tt 5).trans (ht 5 (by decide)))
  · exact own_o2 (by decide) (by decide) ((rfl : own_fmt vv 1 0 0 tt 5 = tt 5).trans (ht 5 (by decide)))
  · exact own_o2 (by decide) (by decide) ((rfl : own_fmt vv 2 0 0 tt 5 = tt 5).trans (ht 5 (by decide)))
  · exact own_i2 (by decide) (by decide) (by decide) (by decide) rfl
  · exact own_i2 (by decide) (by decide) (by decide) (by decide) rfl
  · exact own_o2 (by decide) (by decide) ((rfl : own_fmt vv 0 0 1 tt 5 = tt 5).trans (ht 5 (by decide)))
  · exact own_o2 (by decide) (by decide) ((rfl : own_fmt vv 1 0 1 tt 5 = tt 5).trans (ht 5 (by decide)))
  · exact own_i1 (by decide) (by decide) (by decide) (by decide) (hb 1 (by decide)) rfl
  · exact own_i1 (by decide) (by decide) (by decide) (by decide) (hb 1 (by decide)) rfl
  · exact own_i1 (by decide) (by decide) (by decide) (by decide) (hb 1 (by decide)) rfl
  · exact own_o2 (by decide) (by decide) ((rfl : own_fmt vv 0 0 2 tt 5 = tt 5).trans (ht 5 (by decide)))
  · exact own_o2 (by decide) (by decide) ((rfl : own_fmt vv 1 0 2 tt 5 = tt 5).trans (ht 5 (by decide)))
  · exact own_i0 (by decide) (by decide) (by decide) (hb 1 (by decide)) rfl
  · exact own_i0 (by decide) (by decide) (by decide) (hb 1 (by decide)) rfl
  · exact own_i0 (by decide) (by decide) (by decide) (hb 1 (by decide)) rfl
  · exact own_o2 (by decide) (by decide) ((rfl : own_fmt vv 0 0 3 tt 5 = tt 5).trans (ht 5 (by decide)))
  · exact own_o2 (by decide) (by decide) ((rfl : own_fmt vv 1 0 3 tt 5 = tt 5).trans (ht 5 (by decide)))
  · exact own_i2 (by decide) (by decide) (by decide) (by decide) rfl
  · exact own_i2 (by decide) (by decide) (by decide) (by decide) rfl
  · exact own_i2 (by decide) (by decide) (by decide) (by decide) rfl
theorem own_c6 {r v : Addr} {fill : Int32} {vv tt : Nat → Int32} {na nn : Nat} (ha : na ≤ 3) (hn : nn ≤ 4) (hb : ∀ i, i < 4 → nar .byte (vv i) = vv i) (ht : ∀ i, i < 15 → tt i = nar .byte fill) : f2 r v fill 15 (own_fmt vv nn 0 na tt) 4 vv 6 na nn = 1 := by
  have ha' : na = 0 ∨ na = 1 ∨ na = 2 ∨ na = 3 := by omega
  have hn' : nn = 0 ∨ nn = 1 ∨ nn = 2 ∨ nn = 3 ∨ nn = 4 := by omega
  rcases ha' with rfl | rfl | rfl | rfl <;> rcases hn' with rfl | rfl | rfl | rfl | rfl
  · exact own_o2 (by decide) (by decide) ((rfl : own_fmt vv 0 0 0 tt 6 = tt 6).trans (ht 6 (by decide)))
  · exact own_o2 (by decide) (by decide) ((rfl : own_fmt vv 1 0 0 tt 6 = tt 6).trans (ht 6 (by decide)))
  · exact own_o2 (by decide) (by decide) ((rfl : own_fmt vv 2 0 0 tt 6 = tt 6).trans (ht 6 (by decide)))
  · exact own_i0 (by decide) (by decide) (by decide) (hb 2 (by decide)) rfl
  · exact own_i0 (by decide) (by decide) (by decide) (hb 2 (by decide)) rfl
  · exact own_o2 (by decide) (by decide) ((rfl : own_fmt vv 0 0 1 tt 6 = tt 6).trans (ht 6 (by decide)))
  · exact own_o2 (by decide) (by decide) ((rfl : own_fmt vv 1 0 1 tt 6 = tt 6).trans (ht 6 (by decide)))
  · exact own_o2 (by decide) (by decide) ((rfl : own_fmt vv 2 0 1 tt 6 = tt 6).trans (ht 6 (by decide)))
  · exact own_i2 (by decide) (by decide) (by decide) (by decide) rfl
  · exact own_i2 (by decide) (by decide) (by decide) (by decide) rfl
  · exact own_o2 (by decide) (by decide) ((rfl : own_fmt vv 0 0 2 tt 6 = tt 6).trans (ht 6 (by decide)))
  · exact own_o2 (by decide) (by decide) ((rfl : own_fmt vv 1 0 2 tt 6 = tt 6).trans (ht 6 (by decide)))
  · exact own_i1 (by decide) (by decide) (by decide) (by decide) (hb 1 (by decide)) rfl
  · exact own_i1 (by decide) (by decide) (by decide) (by decide) (hb 1 (by decide)) rfl
  · exact own_i1 (by decide) (by decide) (by decide) (by decide) (hb 1 (by decide)) rfl
  · exact own_o2 (by decide) (by decide) ((rfl : own_fmt vv 0 0 3 tt 6 = tt 6).trans (ht 6 (by decide)))
  · exact own_o2 (by decide) (by decide) ((rfl : own_fmt vv 1 0 3 tt 6 = tt 6).trans (ht 6 (by decide)))
  · exact own_i0 (by decide) (by decide) (by decide) (hb 1 (by decide)) rfl
  · exact own_i0 (by decide) (by decide) (by decide) (hb 1 (by decide)) rfl
  · exact own_i0 (by decide) (by decide) (by decide) (hb 1 (by decide)) rfl
theorem own_c7 {r v : Addr} {fill : Int32} {vv tt : Nat → Int32} {na nn : Nat} (ha : na ≤ 3) (hn : nn ≤ 4) (hb : ∀ i, i < 4 → nar .byte (vv i) = vv i) (ht : ∀ i, i < 15 → tt i = nar .byte fill) : f2 r v fill 15 (own_fmt vv nn 0 na tt) 4 vv 7 na nn = 1 := by
  have ha' : na = 0 ∨ na = 1 ∨ na = 2 ∨ na = 3 := by omega
  have hn' : nn = 0 ∨ nn = 1 ∨ nn = 2 ∨ nn = 3 ∨ nn = 4 := by omega
  rcases ha' with rfl | rfl | rfl | rfl <;> rcases hn' with rfl | rfl | rfl | rfl | rfl
  · exact own_o2 (by decide) (by decide) ((rfl : own_fmt vv 0 0 0 tt 7 = tt 7).trans (ht 7 (by decide)))
  · exact own_o2 (by decide) (by decide) ((rfl : own_fmt vv 1 0 0 tt 7 = tt 7).trans (ht 7 (by decide)))
  · exact own_o2 (by decide) (by decide) ((rfl : own_fmt vv 2 0 0 tt 7 = tt 7).trans (ht 7 (by decide)))
  · exact own_i1 (by decide) (by decide) (by decide) (by decide) (hb 2 (by decide)) rfl
  · exact own_i1 (by decide) (by decide) (by decide) (by decide) (hb 2 (by decide)) rfl
  · exact own_o2 (by decide) (by decide) ((rfl : own_fmt vv 0 0 1 tt 7 = tt 7).trans (ht 7 (by decide)))
  · exact own_o2 (by decide) (by decide) ((rfl : own_fmt vv 1 0 1 tt 7 = tt 7).trans (ht 7 (by decide)))
  · exact own_o2 (by decide) (by decide) ((rfl : own_fmt vv 2 0 1 tt 7 = tt 7).trans (ht 7 (by decide)))
  · exact own_i0 (by decide) (by decide) (by decide) (hb 2 (by decide)) rfl
  · exact own_i0 (by decide) (by decide) (by decide) (hb 2 (by decide)) rfl
  · exact own_o2 (by decide) (by decide) ((rfl : own_fmt vv 0 0 2 tt 7 = tt 7).trans (ht 7 (by decide)))
  · exact own_o2 (by decide) (by decide) ((rfl : own_fmt vv 1 0 2 tt 7 = tt 7).trans (ht 7 (by decide)))
  · exact own_o2 (by decide) (by decide) ((rfl : own_fmt vv 2 0 2 tt 7 = tt 7).trans (ht 7 (by decide)))
  · exact own_i2 (by decide) (by decide) (by decide) (by decide) rfl
  · exact own_i2 (by decide) (by decide) (by decide) (by decide) rfl
  · exact own_o2 (by decide) (by decide) ((rfl : own_fmt vv 0 0 3 tt 7 = tt 7).trans (ht 7 (by decide)))
  · exact own_o2 (by decide) (by decide) ((rfl : own_fmt vv 1 0 3 tt 7 = tt 7).trans (ht 7 (by decide)))
  · exact own_i1 (by decide) (by decide) (by decide) (by decide) (hb 1 (by decide)) rfl
  · exact own_i1 (by decide) (by decide) (by decide) (by decide) (hb 1 (by decide)) rfl
  · exact own_i1 (by decide) (by decide) (by decide) (by decide) (hb 1 (by decide)) rfl
theorem own_c8 {r v : Addr} {fill : Int32} {vv tt : Nat → Int32} {na nn : Nat} (ha : na ≤ 3) (hn : nn ≤ 4) (hb : ∀ i, i < 4 → nar .byte (vv i) = vv i) (ht : ∀ i, i < 15 → tt i = nar .byte fill) : f2 r v fill 15 (own_fmt vv nn 0 na tt) 4 vv 8 na nn = 1 := by
  have ha' : na = 0 ∨ na = 1 ∨ na = 2 ∨ na = 3 := by omega
  have hn' : nn = 0 ∨ nn = 1 ∨ nn = 2 ∨ nn = 3 ∨ nn = 4 := by omega
  rcases ha' with rfl | rfl | rfl | rfl <;> rcases hn' with rfl | rfl | rfl | rfl | rfl
  · exact own_o2 (by decide) (by decide) ((rfl : own_fmt vv 0 0 0 tt 8 = tt 8).trans (ht 8 (by decide)))
  · exact own_o2 (by decide) (by decide) ((rfl : own_fmt vv 1 0 0 tt 8 = tt 8).trans (ht 8 (by decide)))
  · exact own_o2 (by decide) (by decide) ((rfl : own_fmt vv 2 0 0 tt 8 = tt 8).trans (ht 8 (by decide)))
  · exact own_o2 (by decide) (by decide) ((rfl : own_fmt vv 3 0 0 tt 8 = tt 8).trans (ht 8 (by decide)))
  · exact own_i2 (by decide) (by decide) (by decide) (by decide) rfl
  · exact own_o2 (by decide) (by decide) ((rfl : own_fmt vv 0 0 1 tt 8 = tt 8).trans (ht 8 (by decide)))
  · exact own_o2 (by decide) (by decide) ((rfl : own_fmt vv 1 0 1 tt 8 = tt 8).trans (ht 8 (by decide)))
  · exact own_o2 (by decide) (by decide) ((rfl : own_fmt vv 2 0 1 tt 8 = tt 8).trans (ht 8 (by decide)))
  · exact own_i1 (by decide) (by decide) (by decide) (by decide) (hb 2 (by decide)) rfl
  · exact own_i1 (by decide) (by decide) (by decide) (by decide) (hb 2 (by decide)) rfl
  · exact own_o2 (by decide) (by decide) ((rfl : own_fmt vv 0 0 2 tt 8 = tt 8).trans (ht 8 (by decide)))
  · exact own_o2 (by decide) (by decide) ((rfl : own_fmt vv 1 0 2 tt 8 = tt 8).trans (ht 8 (by decide)))
  · exact own_o2 (by decide) (by decide) ((rfl : own_fmt vv 2 0 2 tt 8 = tt 8).trans (ht 8 (by decide)))
  · exact own_i0 (by decide) (by decide) (by decide) (hb 2 (by decide)) rfl
  · exact own_i0 (by decide) (by decide) (by decide) (hb 2 (by decide)) rfl
  · exact own_o2 (by decide) (by decide) ((rfl : own_fmt vv 0 0 3 tt 8 = tt 8).trans (ht 8 (by decide)))
  · exact own_o2 (by decide) (by decide) ((rfl : own_fmt vv 1 0 3 tt 8 = tt 8).trans (ht 8 (by decide)))
  · exact own_o2 (by decide) (by decide) ((rfl : own_fmt vv 2 0 3 tt 8 = tt 8).trans (ht 8 (by decide)))
  · exact own_i2 (by decide) (by decide) (by decide) (by decide) rfl
  · exact own_i2 (by decide) (by decide) (by decide) (by decide) rfl
theorem own_c9 {r v : Addr} {fill : Int32} {vv tt : Nat → Int32} {na nn : Nat} (ha : na ≤ 3) (hn : nn ≤ 4) (hb : ∀ i, i < 4 → nar .byte (vv i) = vv i) (ht : ∀ i, i < 15 → tt i = nar .byte fill) : f2 r v fill 15 (own_fmt vv nn 0 na tt) 4 vv 9 na nn = 1 := by
  have ha' : na = 0 ∨ na = 1 ∨ na = 2 ∨ na = 3 := by omega
  have hn' : nn = 0 ∨ nn = 1 ∨ nn = 2 ∨ nn = 3 ∨ nn = 4 := by omega
  rcases ha' with rfl | rfl | rfl | rfl <;> rcases hn' with rfl | rfl | rfl | rfl | rfl
  · exact own_o2 (by decide) (by decide) ((rfl : own_fmt vv 0 0 0 tt 9 = tt 9).trans (ht 9 (by decide)))
  · exact own_o2 (by decide) (by decide) ((rfl : own_fmt vv 1 0 0 tt 9 = tt 9).trans (ht 9 (by decide)))
  · exact own_o2 (by decide) (by decide) ((rfl : own_fmt vv 2 0 0 tt 9 = tt 9).trans (ht 9 (by decide)))
  · exact own_o2 (by decide) (by decide) ((rfl : own_fmt vv 3 0 0 tt 9 = tt 9).trans (ht 9 (by decide)))
  · exact own_i0 (by decide) (by decide) (by decide) (hb 3 (by decide)) rfl
  · exact own_o2 (by decide) (by decide) ((rfl : own_fmt vv 0 0 1 tt 9 = tt 9).trans (ht 9 (by decide)))
  · exact own_o2 (by decide) (by decide) ((rfl : own_fmt vv 1 0 1 tt 9 = tt 9).trans (ht 9 (by decide)))
  · exact own_o2 (by decide) (by decide) ((rfl : own_fmt vv 2 0 1 tt 9 = tt 9).trans (ht 9 (by decide)))
  · exact own_o2 (by decide) (by decide) ((rfl : own_fmt vv 3 0 1 tt 9 = tt 9).trans (ht 9 (by decide)))
  · exact own_i2 (by decide) (by decide) (by decide) (by decide) rfl
  · exact own_o2 (by decide) (by decide) ((rfl : own_fmt vv 0 0 2 tt 9 = tt 9).trans (ht 9 (by decide)))
  · exact own_o2 (by decide) (by decide) ((rfl : own_fmt vv 1 0 2 tt 9 = tt 9).trans (ht 9 (by decide)))
  · exact own_o2 (by decide) (by decide) ((rfl : own_fmt vv 2 0 2 tt 9 = tt 9).trans (ht 9 (by decide)))
  · exact own_i1 (by decide) (by decide) (by decide) (by decide) (hb 2 (by decide)) rfl
  · exact own_i1 (by decide) (by decide) (by decide) (by decide) (hb 2 (by decide)) rfl
  · exact own_o2 (by decide) (by decide) ((rfl : own_fmt vv 0 0 3 tt 9 = tt 9).trans (ht 9 (by decide)))
  · exact own_o2 (by decide) (by decide) ((rfl : own_fmt vv 1 0 3 tt 9 = tt 9).trans (ht 9 (by decide)))
  · exact own_o2 (by decide) (by decide) ((rfl : own_fmt vv 2 0 3 tt 9 = tt 9).trans (ht 9 (by decide)))
  · exact own_i0 (by decide) (by decide) (by decide) (hb 2 (by decide)) rfl
  · exact own_i0 (by decide) (by decide) (by decide) (hb 2 (by decide)) rfl
theorem own_c10 {r v : Addr} {fill : Int32} {vv tt : Nat → Int32} {na nn : Nat} (ha : na ≤ 3) (hn : nn ≤ 4) (hb : ∀ i, i < 4 → nar .byte (vv i) = vv i) (ht : ∀ i, i < 15 → tt i = nar .byte fill) : f2 r v fill 15 (own_fmt vv nn 0 na tt) 4 vv 10 na nn = 1 := by
  have ha' : na = 0 ∨ na = 1 ∨ na = 2 ∨ na = 3 := by omega
  have hn' : nn = 0 ∨ nn = 1 ∨ nn = 2 ∨ nn = 3 ∨ nn = 4 := by omega
  rcases ha' with rfl | rfl | rfl | rfl <;> rcases hn' with rfl | rfl | rfl | rfl | rfl
  · exact own_o2 (by decide) (by decide) ((rfl : own_fmt vv 0 0 0 tt 10 = tt 10).trans (ht 10 (by decide)))
  · exact own_o2 (by decide) (by decide) ((rfl : own_fmt vv 1 0 0 tt 10 = tt 10).trans (ht 10 (by decide)))
  · exact own_o2 (by decide) (by decide) ((rfl : own_fmt vv 2 0 0 tt 10 = tt 10).trans (ht 10 (by decide)))
  · exact own_o2 (by decide) (by decide) ((rfl : own_fmt vv 3 0 0 tt 10 = tt 10).trans (ht 10 (by decide)))
  · exact own_i1 (by decide) (by decide) (by decide) (by decide) (hb 3 (by decide)) rfl
  · exact own_o2 (by decide) (by decide) ((rfl : own_fmt vv 0 0 1 tt 10 = tt 10).trans (ht 10 (by decide)))
  · exact own_o2 (by decide) (by decide) ((rfl : own_fmt vv 1 0 1 tt 10 = tt 10).trans (ht 10 (by decide)))
  · exact own_o2 (by decide) (by decide) ((rfl : own_fmt vv 2 0 1 tt 10 = tt 10).trans (ht 10 (by decide)))
  · exact own_o2 (by decide) (by decide) ((rfl : own_fmt vv 3 0 1 tt 10 = tt 10).trans (ht 10 (by decide)))
  · exact own_i0 (by decide) (by decide) (by decide) (hb 3 (by decide)) rfl
  · exact own_o2 (by decide) (by decide) ((rfl : own_fmt vv 0 0 2 tt 10 = tt 10).trans (ht 10 (by decide)))
  · exact own_o2 (by decide) (by decide) ((rfl : own_fmt vv 1 0 2 tt 10 = tt 10).trans (ht 10 (by decide)))
  · exact own_o2 (by decide) (by decide) ((rfl : own_fmt vv 2 0 2 tt 10 = tt 10).trans (ht 10 (by decide)))
  · exact own_o2 (by decide) (by decide) ((rfl : own_fmt vv 3 0 2 tt 10 = tt 10).trans (ht 10 (by decide)))
  · exact own_i2 (by decide) (by decide) (by decide) (by decide) rfl
  · exact own_o2 (by decide) (by decide) ((rfl : own_fmt vv 0 0 3 tt 10 = tt 10).trans (ht 10 (by decide)))
  · exact own_o2 (by decide) (by decide) ((rfl : own_fmt vv 1 0 3 tt 10 = tt 10).trans (ht 10 (by decide)))
  · exact own_o2 (by decide) (by decide) ((rfl : own_fmt vv 2 0 3 tt 10 = tt 10).trans (ht 10 (by decide)))
  · exact own_i1 (by decide) (by decide) (by decide) (by decide) (hb 2 (by decide)) rfl
  · exact own_i1 (by decide) (by decide) (by decide) (by decide) (hb 2 (by decide)) rfl
theorem own_c11 {r v : Addr} {fill : Int32} {vv tt : Nat → Int32} {na nn : Nat} (ha : na ≤ 3) (hn : nn ≤ 4) (hb : ∀ i, i < 4 → nar .byte (vv i) = vv i) (ht : ∀ i, i < 15 → tt i = nar .byte fill) : f2 r v fill 15 (own_fmt vv nn 0 na tt) 4 vv 11 na nn = 1 := by
  have ha' : na = 0 ∨ na = 1 ∨ na = 2 ∨ na = 3 := by omega
  have hn' : nn = 0 ∨ nn = 1 ∨ nn = 2 ∨ nn = 3 ∨ nn = 4 := by omega
  rcases ha' with rfl | rfl | rfl | rfl <;> rcases hn' with rfl | rfl | rfl | rfl | rfl
  · exact own_o2 (by decide) (by decide) ((rfl : own_fmt vv 0 0 0 tt 11 = tt 11).trans (ht 11 (by decide)))
  · exact own_o2 (by decide) (by decide) ((rfl : own_fmt vv 1 0 0 tt 11 = tt 11).trans (ht 11 (by decide)))
  · exact own_o2 (by decide) (by decide) ((rfl : own_fmt vv 2 0 0 tt 11 = tt 11).trans (ht 11 (by decide)))
  · exact own_o2 (by decide) (by decide) ((rfl : own_fmt vv 3 0 0 tt 11 = tt 11).trans (ht 11 (by decide)))
  · exact own_o2 (by decide) (by decide) ((rfl : own_fmt vv 4 0 0 tt 11 = tt 11).trans (ht 11 (by decide)))
  · exact own_o2 (by decide) (by decide) ((rfl : own_fmt vv 0 0 1 tt 11 = tt 11).trans (ht 11 (by decide)))
  · exact own_o2 (by decide) (by decide) ((rfl : own_fmt vv 1 0 1 tt 11 = tt 11).trans (ht 11 (by decide)))
  · exact own_o2 (by decide) (by decide) ((rfl : own_fmt vv 2 0 1 tt 11 = tt 11).trans (ht 11 (by decide)))
  · exact own_o2 (by decide) (by decide) ((rfl : own_fmt vv 3 0 1 tt 11 = tt 11).trans (ht 11 (by decide)))
  · exact own_i1 (by decide) (by decide) (by decide) (by decide) (hb 3 (by decide)) rfl
  · exact own_o2 (by decide) (by decide) ((rfl : own_fmt vv 0 0 2 tt 11 = tt 11).trans (ht 11 (by decide)))
  · exact own_o2 (by decide) (by decide) ((rfl : own_fmt vv 1 0 2 tt 11 = tt 11).trans (ht 11 (by decide)))
  · exact own_o2 (by decide) (by decide) ((rfl : own_fmt vv 2 0 2 tt 11 = tt 11).trans (ht 11 (by decide)))
  · exact own_o2 (by decide) (by decide) ((rfl : own_fmt vv 3 0 2 tt 11 = tt 11).trans (ht 11 (by decide)))
  · exact own_i0 (by decide) (by decide) (by decide) (hb 3 (by decide)) rfl
  · exact own_o2 (by decide) (by decide) ((rfl : own_fmt vv 0 0 3 tt 11 = tt 11).trans (ht 11 (by decide)))
  · exact own_o2 (by decide) (by decide) ((rfl : own_fmt vv 1 0 3 tt 11 = tt 11).trans (ht 11 (by decide)))
  · exact own_o2 (by decide) (by decide) ((rfl : own_fmt vv 2 0 3 tt 11 = tt 11).trans (ht 11 (by decide)))
  · exact own_o2 (by decide) (by decide) ((rfl : own_fmt vv 3 0 3 tt 11 = tt 11).trans (ht 11 (by decide)))
  · exact own_i2 (by decide) (by decide) (by decide) (by decide) rfl
theorem own_c12 {r v : Addr} {fill : Int32} {vv tt : Nat → Int32} {na nn : Nat} (ha : na ≤ 3) (hn : nn ≤ 4) (hb : ∀ i, i < 4 → nar .byte (vv i) = vv i) (ht : ∀ i, i < 15 → tt i = nar .byte fill) : f2 r v fill 15 (own_fmt vv nn 0 na tt) 4 vv 12 na nn = 1 := by
  have ha' : na = 0 ∨ na = 1 ∨ na = 2 ∨ na = 3 := by omega
  have hn' : nn = 0 ∨ nn = 1 ∨ nn = 2 ∨ nn = 3 ∨ nn = 4 := by omega
  rcases ha' with rfl | rfl | rfl | rfl <;> rcases hn' with rfl | rfl | rfl | rfl | rfl
  · exact own_o2 (by decide) (by decide) ((rfl : own_fmt vv 0 0 0 tt 12 = tt 12).trans (ht 12 (by decide)))
  · exact own_o2 (by decide) (by decide) ((rfl : own_fmt vv 1 0 0 tt 12 = tt 12).trans (ht 12 (by decide)))
  · exact own_o2 (by decide) (by decide) ((rfl : own_fmt vv 2 0 0 tt 12 = tt 12).trans (ht 12 (by decide)))
  · exact own_o2 (by decide) (by decide) ((rfl : own_fmt vv 3 0 0 tt 12 = tt 12).trans (ht 12 (by decide)))
  · exact own_o2 (by decide) (by decide) ((rfl : own_fmt vv 4 0 0 tt 12 = tt 12).trans (ht 12 (by decide)))
  · exact own_o2 (by decide) (by decide) ((rfl : own_fmt vv 0 0 1 tt 12 = tt 12).trans (ht 12 (by decide)))
  · exact own_o2 (by decide) (by decide) ((rfl : own_fmt vv 1 0 1 tt 12 = tt 12).trans (ht 12 (by decide)))
  · exact own_o2 (by decide) (by decide) ((rfl : own_fmt vv 2 0 1 tt 12 = tt 12).trans (ht 12 (by decide)))
  · exact own_o2 (by decide) (by decide) ((rfl : own_fmt vv 3 0 1 tt 12 = tt 12).trans (ht 12 (by decide)))
  · exact own_o2 (by decide) (by decide) ((rfl : own_fmt vv 4 0 1 tt 12 = tt 12).trans (ht 12 (by decide)))
  · exact own_o2 (by decide) (by decide) ((rfl : own_fmt vv 0 0 2 tt 12 = tt 12).trans (ht 12 (by decide)))
  · exact own_o2 (by decide) (by decide) ((rfl : own_fmt vv 1 0 2 tt 12 = tt 12).trans (ht 12 (by decide)))
  · exact own_o2 (by decide) (by decide) ((rfl : own_fmt vv 2 0 2 tt 12 = tt 12).trans (ht 12 (by decide)))
  · exact own_o2 (by decide) (by decide) ((rfl : own_fmt vv 3 0 2 tt 12 = tt 12).trans (ht 12 (by decide)))
  · exact own_i1 (by decide) (by decide) (by decide) (by decide) (hb 3 (by decide)) rfl
  · exact own_o2 (by decide) (by decide) ((rfl : own_fmt vv 0 0 3 tt 12 = tt 12).trans (ht 12 (by decide)))
  · exact own_o2 (by decide) (by decide) ((rfl : own_fmt vv 1 0 3 tt 12 = tt 12).trans (ht 12 (by decide)))
  · exact own_o2 (by decide) (by decide) ((rfl : own_fmt vv 2 0 3 tt 12 = tt 12).trans (ht 12 (by decide)))
  · exact own_o2 (by decide) (by decide) ((rfl : own_fmt vv 3 0 3 tt 12 = tt 12).trans (ht 12 (by decide)))
  · exact own_i0 (by decide) (by decide) (by decide) (hb 3 (by decide)) rfl
theorem own_c13 {r v : Addr} {fill : Int32} {vv tt : Nat → Int32} {na nn : Nat} (ha : na ≤ 3) (hn : nn ≤ 4) (hb : ∀ i, i < 4 → nar .byte (vv i) = vv i) (ht : ∀ i, i < 15 → tt i = nar .byte fill) : f2 r v fill 15 (own_fmt vv nn 0 na tt) 4 vv 13 na nn = 1 := by
  have ha' : na = 0 ∨ na = 1 ∨ na = 2 ∨ na = 3 := by omega
  have hn' : nn = 0 ∨ nn = 1 ∨ nn = 2 ∨ nn = 3 ∨ nn = 4 := by omega
  rcases ha' with rfl | rfl | rfl | rfl <;> rcases hn' with rfl | rfl | rfl | rfl | rfl
  · exact own_o2 (by decide) (by decide) ((rfl : own_fmt vv 0 0 0 tt 13 = tt 13).trans (ht 13 (by decide)))
  · exact own_o2 (by decide) (by decide) ((rfl : own_fmt vv 1 0 0 tt 13 = tt 13).trans (ht 13 (by decide)))
  · exact own_o2 (by decide) (by decide) ((rfl : own_fmt vv 2 0 0 tt 13 = tt 13).trans (ht 13 (by decide)))
  · exact own_o2 (by decide) (by decide) ((rfl : own_fmt vv 3 0 0 tt 13 = tt 13).trans (ht 13 (by decide)))
  · exact own_o2 (by decide) (by decide) ((rfl : own_fmt vv 4 0 0 tt 13 = tt 13).trans (ht 13 (by decide)))
  · exact own_o2 (by decide) (by decide) ((rfl : own_fmt vv 0 0 1 tt 13 = tt 13).trans (ht 13 (by decide)))
  · exact own_o2 (by decide) (by decide) ((rfl : own_fmt vv 1 0 1 tt 13 = tt 13).trans (ht 13 (by decide)))
  · exact own_o2 (by decide) (by decide) ((rfl : own_fmt vv 2 0 1 tt 13 = tt 13).trans (ht 13 (by decide)))
  · exact own_o2 (by decide) (by decide) ((rfl : own_fmt vv 3 0 1 tt 13 = tt 13).trans (ht 13 (by decide)))
  · exact own_o2 (by decide) (by decide) ((rfl : own_fmt vv 4 0 1 tt 13 = tt 13).trans (ht 13 (by decide)))
  · exact own_o2 (by decide) (by decide) ((rfl : own_fmt vv 0 0 2 tt 13 = tt 13).trans (ht 13 (by decide)))
  · exact own_o2 (by decide) (by decide) ((rfl : own_fmt vv 1 0 2 tt 13 = tt 13).trans (ht 13 (by decide)))
  · exact own_o2 (by decide) (by decide) ((rfl : own_fmt vv 2 0 2 tt 13 = tt 13).trans (ht 13 (by decide)))
  · exact own_o2 (by decide) (by decide) ((rfl : own_fmt vv 3 0 2 tt 13 = tt 13).trans (ht 13 (by decide)))
  · exact own_o2 (by decide) (by decide) ((rfl : own_fmt vv 4 0 2 tt 13 = tt 13).trans (ht 13 (by decide)))
  · exact own_o2 (by decide) (by decide) ((rfl : own_fmt vv 0 0 3 tt 13 = tt 13).trans (ht 13 (by decide)))
  · exact own_o2 (by decide) (by decide) ((rfl : own_fmt vv 1 0 3 tt 13 = tt 13).trans (ht 13 (by decide)))
  · exact own_o2 (by decide) (by decide) ((rfl : own_fmt vv 2 0 3 tt 13 = tt 13).trans (ht 13 (by decide)))
  · exact own_o2 (by decide) (by decide) ((rfl : own_fmt vv 3 0 3 tt 13 = tt 13).trans (ht 13 (by decide)))
  · exact own_i1 (by decide) (by decide) (by decide) (by decide) (hb 3 (by decide)) rfl
theorem own_c14 {r v : Addr} {fill : Int32} {vv tt : Nat → Int32} {na nn : Nat} (ha : na ≤ 3) (hn : nn ≤ 4) (hb : ∀ i, i < 4 → nar .byte (vv i) = vv i) (ht : ∀ i, i < 15 → tt i = nar .byte fill) : f2 r v fill 15 (own_fmt vv nn 0 na tt) 4 vv 14 na nn = 1 := by
  have ha' : na = 0 ∨ na = 1 ∨ na = 2 ∨ na = 3 := by omega
  have hn' : nn = 0 ∨ nn = 1 ∨ nn = 2 ∨ nn = 3 ∨ nn = 4 := by omega
  rcases ha' with rfl | rfl | rfl | rfl <;> rcases hn' with rfl | rfl | rfl | rfl | rfl
  · exact own_o2 (by decide) (by decide) ((rfl : own_fmt vv 0 0 0 tt 14 = tt 14).trans (ht 14 (by decide)))
  · exact own_o2 (by decide) (by decide) ((rfl : own_fmt vv 1 0 0 tt 14 = tt 14).trans (ht 14 (by decide)))
  · exact own_o2 (by decide) (by decide) ((rfl : own_fmt vv 2 0 0 tt 14 = tt 14).trans (ht 14 (by decide)))
  · exact own_o2 (by decide) (by decide) ((rfl : own_fmt vv 3 0 0 tt 14 = tt 14).trans (ht 14 (by decide)))
  · exact own_o2 (by decide) (by decide) ((rfl : own_fmt vv 4 0 0 tt 14 = tt 14).trans (ht 14 (by decide)))
  · exact own_o2 (by decide) (by decide) ((rfl : own_fmt vv 0 0 1 tt 14 = tt 14).trans (ht 14 (by decide)))
  · exact own_o2 (by decide) (by decide) ((rfl : own_fmt vv 1 0 1 tt 14 = tt 14).trans (ht 14 (by decide)))
  · exact own_o2 (by decide) (by decide) ((rfl : own_fmt vv 2 0 1 tt 14 = tt 14).trans (ht 14 (by decide)))
  · exact own_o2 (by decide) (by decide) ((rfl : own_fmt vv 3 0 1 tt 14 = tt 14).trans (ht 14 (by decide)))
  · exact own_o2 (by decide) (by decide) ((rfl : own_fmt vv 4 0 1 tt 14 = tt 14).trans (ht 14 (by decide)))
  · exact own_o2 (by decide) (by decide) ((rfl : own_fmt vv 0 0 2 tt 14 = tt 14).trans (ht 14 (by decide)))
  · exact own_o2 (by decide) (by decide) ((rfl : own_fmt vv 1 0 2 tt 14 = tt 14).trans (ht 14 (by decide)))
  · exact own_o2 (by decide) (by decide) ((rfl : own_fmt vv 2 0 2 tt 14 = tt 14).trans (ht 14 (by decide)))
  · exact own_o2 (by decide) (by decide) ((rfl : own_fmt vv 3 0 2 tt 14 = tt 14).trans (ht 14 (by decide)))
  · exact own_o2 (by decide) (by decide) ((rfl : own_fmt vv 4 0 2 tt 14 = tt 14).trans (ht 14 (by decide)))
  · exact own_o2 (by decide) (by decide) ((rfl : own_fmt vv 0 0 3 tt 14 = tt 14).trans (ht 14 (by decide)))
  · exact own_o2 (by decide) (by decide) ((rfl : own_fmt vv 1 0 3 tt 14 = tt 14).trans (ht 14 (by decide)))
  · exact own_o2 (by decide) (by decide) ((rfl : own_fmt vv 2 0 3 tt 14 = tt 14).trans (ht 14 (by decide)))
  · exact own_o2 (by decide) (by decide) ((rfl : own_fmt vv 3 0 3 tt 14 = tt 14).trans (ht 14 (by decide)))
  · exact own_o2 (by decide) (by decide) ((rfl : own_fmt vv 4 0 3 tt 14 = tt 14).trans (ht 14 (by decide)))
theorem own_digits {s : State} {args : Array Value} {c1 c2 : Jvm.Cond} (hi : (Jvm.Cond.initialized "org/cardprobe/Hex").before args s = true) (hl : (Jvm.Cond.laysStatic "org/cardprobe/Hex" "DIGITS" "[B").before args s = true)
    (h1 : (Jvm.Cond.arrayOf (Jvm.Term.static "org/cardprobe/Hex" "DIGITS" "[B") .byte).value args s none s [] = some true) (h2 : (Jvm.Cond.eq (.length (Jvm.Term.static "org/cardprobe/Hex" "DIGITS" "[B")) (.int (16 : Int32))).value args s none s [] = some true)
    (h3 : (Jvm.Cond.all (Jvm.Term.static "org/cardprobe/Hex" "DIGITS" "[B") (.or (.le (.int (10 : Int32)) (.index 0)) (.eq (.op1 .i2l (.elem (Jvm.Term.static "org/cardprobe/Hex" "DIGITS" "[B") (.index 0))) (.op2 .ladd (.op1 .i2l (.index 0)) (.long (48 : Int64)))))).value args s none s [] = some true)
    (h4 : (Jvm.Cond.all (Jvm.Term.static "org/cardprobe/Hex" "DIGITS" "[B") (.or (.lt (.index 0) (.int (10 : Int32))) (.eq (.op1 .i2l (.elem (Jvm.Term.static "org/cardprobe/Hex" "DIGITS" "[B") (.index 0))) (.op2 .ladd (.op1 .i2l (.index 0)) (.long (55 : Int64)))))).value args s none s [] = some true) :
    ∃ dg : Addr, Sta s s.heap "org/cardprobe/Hex" "DIGITS" "[B" (.ref dg) ∧ IA s s.heap dg .byte 16 own_dig := by
  obtain ⟨dg, ec⟩ := arr_v h1
  have S := Sta.start ec (Or.inr ⟨hi, hl⟩)
  obtain ⟨a, cl, ea, hA, harr, hvm⟩ := IntBox.arrayOf_fwd (Cond.before_iff.mpr h1) ec
  cases ea
  obtain ⟨hsz, hsize⟩ := IntBox.length_fwd (Cond.before_iff.mpr h2) ec hA harr hvm
  have hS : cl.slots.size = 16 := by
    have e1 : (Int32.ofNat cl.slots.size).toInt = cl.slots.size := own_nat hsz
    have e2 : Int32.ofNat cl.slots.size = (16 : Int32) := hsize
    rw [e2] at e1
    have e3 : (16 : Int32).toInt = 16 := rfl
    omega
  have hat := IntBox.arrayAt_of hA harr hvm
  refine ⟨dg, S, cl, ⟨hA, harr, hvm⟩, hS, by decide, fun j hj => ?_⟩
  have a3 := Cond.all_elim ec hat h3 j (by rw [hS]; exact hj)
  have a4 := Cond.all_elim ec hat h4 j (by rw [hS]; exact hj)
  have ec2 : (Jvm.Term.static "org/cardprobe/Hex" "DIGITS" "[B").eval args s none [j] s = some (.ref dg) := ec
  have ej : (Term.index 0).eval args s none [j] s = some (.int (Int32.ofNat j)) := rfl
  have hneg : ¬ (Int32.ofNat j < 0) := fun q => own_in (n := 16) hj (by decide) (Or.inl q)
  have e3 : (Term.elem (Jvm.Term.static "org/cardprobe/Hex" "DIGITS" "[B") (.index 0)).eval args s none [j] s = cl.slots[j]? := by
    have : (Term.elem (Jvm.Term.static "org/cardprobe/Hex" "DIGITS" "[B") (.index 0)).eval args s none [j] s = (if Int32.ofNat j < 0 then none else cl.slots[(Int32.ofNat j).toNatClampNeg]?) := by
      show (do
        let .ref a ← (Jvm.Term.static "org/cardprobe/Hex" "DIGITS" "[B").eval args s none [j] s | none
        let .int j ← (Term.index 0).eval args s none [j] s | none
        if j < 0 then none else (← s.arrayAt? a).slots[j.toNatClampNeg]?) = _
      rw [ec2, ej]
      simp only [Option.bind_eq_bind, Option.bind_some, hat]
    rw [this, if_neg hneg, own_cl (by omega)]
  have fitT : ∀ j : Fin 16, fits .byte (.int (own_dig j.val)) = true := by decide +kernel
  refine ⟨?_, fitT ⟨j, hj⟩⟩
  have key : ∀ (k : Int64), (Jvm.Cond.eq (.op1 .i2l (.elem (Jvm.Term.static "org/cardprobe/Hex" "DIGITS" "[B") (.index 0))) (.op2 .ladd (.op1 .i2l (.index 0)) (.long k))).value args s none s [j] = some true → ∃ x : Int32, cl.slots[j]? = some (.int x) ∧ x.toInt64 = (Int32.ofNat j).toInt64 + k := by
    intro k h
    obtain ⟨x, y, hx, hy, -, -⟩ := cmp_v (Or.inl h)
    obtain ⟨u, hu, hu2⟩ := op1_v hx
    have hb : (Term.op2 .ladd (.op1 .i2l (.index 0)) (.long k)).eval args s none [j] s = some (.long ((Int32.ofNat j).toInt64 + k)) := rfl
    cases u with
    | int u =>
      have hx2 : x = .long u.toInt64 := (Option.some.inj hu2).symm
      subst hx2
      refine ⟨u, e3.symm.trans hu, ?_⟩
      simp only [Cond.value, hx, hb] at h
      exact of_decide_eq_true (Option.some.inj h)
    | _ => cases hu2
  have fin : ∀ (x : Int32) (d : Nat), d < 100 → x.toInt64 = (Int32.ofNat j).toInt64 + Int64.ofNat d → x = Int32.ofNat (j + d) := by
    intro x d hd h
    apply own_eqNat
    have e1 := congrArg Int64.toInt h
    have e2 : (Int64.ofNat d).toInt = d := Int64.toInt_ofNat_of_lt (by omega)
    have e4 : (Int32.ofNat j).toInt64.toInt = j := by rw [Jvm.Kit.i64_of_i32, own_nat (by omega)]
    rw [Jvm.Kit.i64_of_i32, Jvm.Kit.i64_add (by rw [e2, e4]; omega) (by rw [e2, e4]; omega), e2, e4] at e1
    rw [e1]; omega
  by_cases h10 : j < 10
  · have hG : (Jvm.Cond.le (.int (10 : Int32)) (.index 0)).value args s none s [j] = some false := by
      have := Cond.le_ints (a := .int (10 : Int32)) (b := .index 0) (args := args) (first := s) (o := none) (s := s) (idx := [j]) rfl ej
      rw [this]
      have q : ¬ ((10 : Int32) ≤ Int32.ofNat j) := fun q => by
        have := Int32.le_iff_toInt_le.mp q
        rw [own_nat (by omega)] at this
        have z : (10 : Int32).toInt = 10 := rfl
        omega
      rw [decide_eq_false q]
    rw [Cond.or_of_right hG] at a3
    obtain ⟨x, hx, ex⟩ := key 48 a3
    rw [hx, fin x 48 (by decide) ex]
    show _ = some (Value.int (own_dig j))
    rw [own_dig, if_pos h10]
  · have hG : (Jvm.Cond.lt (.index 0) (.int (10 : Int32))).value args s none s [j] = some false := by
      have := Cond.lt_ints (a := .index 0) (b := .int (10 : Int32)) (args := args) (first := s) (o := none) (s := s) (idx := [j]) ej rfl
      rw [this]
      have q : ¬ (Int32.ofNat j < (10 : Int32)) := fun q => by
        have := Int32.lt_iff_toInt_lt.mp q
        rw [own_nat (by omega)] at this
        have z : (10 : Int32).toInt = 10 := rfl
        omega
      rw [decide_eq_false q]
    rw [Cond.or_of_right hG] at a4
    obtain ⟨x, hx, ex⟩ := key 55 a4
    rw [hx, fin x 55 (by decide) ex]
    show _ = some (Value.int (own_dig j))
    rw [own_dig, if_neg h10]
theorem pn_0 : plainName "org/cardprobe/HexFormatPinLaw" = true := by first | (simp [plainName, overriddenIn]; done) | decide +kernel
theorem ef_rm0 (m : MethodId) (x0 : Int32) (x1 : Int32) (x2 : Int32) (x3 : Int32) (x4 : Int32) (x5 : Int32) : entryFrame m #[(.int x0), (.int x1), (.int x2), (.int x3), (.int x4), (.int x5)] maxLocals = mkF m 0 #[.val (.int x0), .val (.int x1), .val (.int x2), .val (.int x3), .val (.int x4), .val (.int x5), .unset, .unset, .unset, .unset, .unset, .unset, .unset, .unset, .unset, .unset, .unset, .unset, .unset] [] := by first | (simp [entryFrame, mkF, argsToLocals, Value.category, maxLocals]; done) | rfl
def Q0 (n0 : Nat) (v : Option Value) (h : Heap) (L : List Loc) : Prop := v = some (.int 1) ∧ Fr n0 L
set_option maxRecDepth 65536 in
set_option maxHeartbeats 40000000 in
theorem rm0 (l : Launch) (Z : State) (a0 : Array Value) (hw : ∀ d ∈ tables_1, d.before a0 Z = true) (ws : List Jvm.Cond) (p0 : Int32) (p1 : Int32) (p2 : Int32) (p3 : Int32) (p4 : Int32) (p5 : Int32) (dg : Addr) (h0 : Heap) (n0 : Nat) (Z0 : n0 ≤ h0.size) (A_dg : IA Z h0 dg .byte 16 own_dig) (S_DG : Sta Z h0 "org/cardprobe/Hex" "DIGITS" "[B" (.ref dg)) :
    MetFree l x (head1 (Jvm.Cond.code x code maxLocals ret :: ws) room_1) (fun a U => a = #[(.int p0), (.int p1), (.int p2), (.int p3), (.int p4), (.int p5)] ∧ Z.Warmed39 U.vm ∧ U.heap = h0) (fun _ _ _ _ _ => True) (fun _ U o U' => ∃ v L, o = .returned v ∧ Q0 n0 v U'.heap L ∧ FrameEnd U o U' L room_1.cells room_1.slots) := by
  refine MetFree.of_bodySF (plainFor_of_name pn_0) hisR ?_
  intro p e s m args below meth c s₁ Bd hml0 hP hK
  obtain ⟨rfl, hZ, hh⟩ := hP
  have hx := Bd.exec
  have hby := Bd.bytes
  have hml : c.maxLocals = 19 := hml0
  have hown : s.vm.findClass "org/cardprobe/HexFormatPinLaw" = some m.cls := findClass_of_methodNamed Bd.named
  have hnm := (name_of_methodNamed Bd.named Bd.method).1
  have hlk : meth.locks = false := BodyLoose.notSynchronized Bd
  have X0 : Stand p l e room_1 s m #[(.int p0), (.int p1), (.int p2), (.int p3), (.int p4), (.int p5)] below meth c s₁ [] 0 0 := Stand.of_body Bd
  have e0 : s₁.heap = h0 := by rw [← hh, Bd.state]; rfl
  have N0 := Fr.nil n0
  have K0 : Keep h0 h0 [] := Keep.refl _ _
  show Goes p e below s (Q0 n0) room_1.cells room_1.slots (s₁.setTop (entryFrame m #[(.int p0), (.int p1), (.int p2), (.int p3), (.int p4), (.int p5)] maxLocals))
  rw [ef_rm0]
  show Goes p e below s _ _ _ (s₁.setTop (mkF m 0 #[.val (.int p0), .val (.int p1), .val (.int p2), .val (.int p3), .val (.int p4), .val (.int p5), .unset, .unset, .unset, .unset, .unset, .unset, .unset, .unset, .unset, .unset, .unset, .unset, .unset] []))
  refine Goes.go (fun _ kst => XS.iload X0.here hx rfl (hb hby at_0) rfl  kst) ?_
  show Goes p e below s _ _ _ (s₁.setTop (mkF m 2 #[.val (.int p0), .val (.int p1), .val (.int p2), .val (.int p3), .val (.int p4), .val (.int p5), .unset, .unset, .unset, .unset, .unset, .unset, .unset, .unset, .unset, .unset, .unset, .unset, .unset] [(.int p4)]))
  refine Goes.go (fun _ kst => XS.bipush X0.here hx rfl (hb hby at_2) kst) ?_
  show Goes p e below s _ _ _ (s₁.setTop (mkF m 4 #[.val (.int p0), .val (.int p1), .val (.int p2), .val (.int p3), .val (.int p4), .val (.int p5), .unset, .unset, .unset, .unset, .unset, .unset, .unset, .unset, .unset, .unset, .unset, .unset, .unset] [(.int (7 : Int32)), (.int p4)]))
  refine Goes.go (fun _ kst => XS.iand X0.here hx rfl (hb hby at_4) rfl kst) ?_
  show Goes p e below s _ _ _ (s₁.setTop (mkF m 5 #[.val (.int p0), .val (.int p1), .val (.int p2), .val (.int p3), .val (.int p4), .val (.int p5), .unset, .unset, .unset, .unset, .unset, .unset, .unset, .unset, .unset, .unset, .unset, .unset, .unset] [(.int (p4 &&& (7 : Int32)))]))
  refine Goes.go (fun _ kst => XS.iconst X0.here hx rfl (hb hby at_5) kst) ?_
  show Goes p e below s _ _ _ (s₁.setTop (mkF m 6 #[.val (.int p0), .val (.int p1), .val (.int p2), .val (.int p3), .val (.int p4), .val (.int p5), .unset, .unset, .unset, .unset, .unset, .unset, .unset, .unset, .unset, .unset, .unset, .unset, .unset] [(.int (5 : Int32)), (.int (p4 &&& (7 : Int32)))]))
  refine Goes.go (fun _ kst => own_irem X0.here hx rfl (hb hby at_6) rfl (by decide) kst) ?_
  show Goes p e below s _ _ _ (s₁.setTop (mkF m 7 #[.val (.int p0), .val (.int p1), .val (.int p2), .val (.int p3), .val (.int p4), .val (.int p5), .unset, .unset, .unset, .unset, .unset, .unset, .unset, .unset, .unset, .unset, .unset, .unset, .unset] [(.int ((p4 &&& (7 : Int32)) % (5 : Int32)))]))
  refine Goes.go (fun _ kst => XS.istore X0.here hx rfl (hb hby at_7) rfl (l' := #[.val (.int p0), .val (.int p1), .val (.int p2), .val (.int p3), .val (.int p4), .val (.int p5), .val (.int ((p4 &&& (7 : Int32)) % (5 : Int32))), .unset, .unset, .unset, .unset, .unset, .unset, .unset, .unset, .unset, .unset, .unset, .unset]) rfl kst) ?_
  show Goes p e below s _ _ _ (s₁.setTop (mkF m 9 #[.val (.int p0), .val (.int p1), .val (.int p2), .val (.int p3), .val (.int p4), .val (.int p5), .val (.int ((p4 &&& (7 : Int32)) % (5 : Int32))), .unset, .unset, .unset, .unset, .unset, .unset, .unset, .unset, .unset, .unset, .unset, .unset] []))
  refine Goes.go (fun _ kst => XS.iload X0.here hx rfl (hb hby at_9) rfl  kst) ?_
  show Goes p e below s _ _ _ (s₁.setTop (mkF m 11 #[.val (.int p0), .val (.int p1), .val (.int p2), .val (.int p3), .val (.int p4), .val (.int p5), .val (.int ((p4 &&& (7 : Int32)) % (5 : Int32))), .unset, .unset, .unset, .unset, .unset, .unset, .unset, .unset, .unset, .unset, .unset, .unset] [(.int p4)]))
  refine Goes.go (fun _ kst => XS.iconst X0.here hx rfl (hb hby at_11) kst) ?_
  show Goes p e below s _ _ _ (s₁.setTop (mkF m 12 #[.val (.int p0), .val (.int p1), .val (.int p2), .val (.int p3), .val (.int p4), .val (.int p5), .val (.int ((p4 &&& (7 : Int32)) % (5 : Int32))), .unset, .unset, .unset, .unset, .unset, .unset, .unset, .unset, .unset, .unset, .unset, .unset] [(.int (3 : Int32)), (.int p4)]))
  refine Goes.go (fun _ kst => XS.iushr X0.here hx rfl (hb hby at_12) rfl kst) ?_
  show Goes p e below s _ _ _ (s₁.setTop (mkF m 13 #[.val (.int p0), .val (.int p1), .val (.int p2), .val (.int p3), .val (.int p4), .val (.int p5), .val (.int ((p4 &&& (7 : Int32)) % (5 : Int32))), .unset, .unset, .unset, .unset, .unset, .unset, .unset, .unset, .unset, .unset, .unset, .unset] [(.int ((p4.toUInt32 >>> ((3 : Int32) &&& 31).toUInt32).toInt32))]))
  refine Goes.go (fun _ kst => XS.iconst X0.here hx rfl (hb hby at_13) kst) ?_
  show Goes p e below s _ _ _ (s₁.setTop (mkF m 14 #[.val (.int p0), .val (.int p1), .val (.int p2), .val (.int p3), .val (.int p4), .val (.int p5), .val (.int ((p4 &&& (7 : Int32)) % (5 : Int32))), .unset, .unset, .unset, .unset, .unset, .unset, .unset, .unset, .unset, .unset, .unset, .unset] [(.int (3 : Int32)), (.int ((p4.toUInt32 >>> ((3 : Int32) &&& 31).toUInt32).toInt32))]))
  refine Goes.go (fun _ kst => XS.iand X0.here hx rfl (hb hby at_14) rfl kst) ?_
  show Goes p e below s _ _ _ (s₁.setTop (mkF m 15 #[.val (.int p0), .val (.int p1), .val (.int p2), .val (.int p3), .val (.int p4), .val (.int p5), .val (.int ((p4 &&& (7 : Int32)) % (5 : Int32))), .unset, .unset, .unset, .unset, .unset, .unset, .unset, .unset, .unset, .unset, .unset, .unset] [(.int (((p4.toUInt32 >>> ((3 : Int32) &&& 31).toUInt32).toInt32) &&& (3 : Int32)))]))
  refine Goes.go (fun _ kst => XS.istore X0.here hx rfl (hb hby at_15) rfl (l' := #[.val (.int p0), .val (.int p1), .val (.int p2), .val (.int p3), .val (.int p4), .val (.int p5), .val (.int ((p4 &&& (7 : Int32)) % (5 : Int32))), .val (.int (((p4.toUInt32 >>> ((3 : Int32) &&& 31).toUInt32).toInt32) &&& (3 : Int32))), .unset, .unset, .unset, .unset, .unset, .unset, .unset, .unset, .unset, .unset, .unset]) rfl kst) ?_
  obtain ⟨nn, hnn, en⟩ := own_n5 p4
  obtain ⟨na, hna0, ea⟩ := own_andN ((p4.toUInt32 >>> ((3 : Int32) &&& 31).toUInt32).toInt32) 3 2 (by decide) (by decide)
  have hna : na ≤ 3 := by omega
  rw [en, ea]
  show Goes p e below s _ _ _ (s₁.setTop (mkF m 17 #[.val (.int p0), .val (.int p1), .val (.int p2), .val (.int p3), .val (.int p4), .val (.int p5), .val (.int (Int32.ofNat nn)), .val (.int (Int32.ofNat na)), .unset, .unset, .unset, .unset, .unset, .unset, .unset, .unset, .unset, .unset, .unset] []))
  refine Goes.go (fun _ kst => XS.iloadN X0.here hx rfl (hb hby at_17) rfl  kst) ?_
  show Goes p e below s _ _ _ (s₁.setTop (mkF m 18 #[.val (.int p0), .val (.int p1), .val (.int p2), .val (.int p3), .val (.int p4), .val (.int p5), .val (.int (Int32.ofNat nn)), .val (.int (Int32.ofNat na)), .unset, .unset, .unset, .unset, .unset, .unset, .unset, .unset, .unset, .unset, .unset] [(.int p0)]))
  refine Goes.go (fun _ kst => XS.i2b X0.here hx rfl (hb hby at_18) rfl kst) ?_
  show Goes p e below s _ _ _ (s₁.setTop (mkF m 19 #[.val (.int p0), .val (.int p1), .val (.int p2), .val (.int p3), .val (.int p4), .val (.int p5), .val (.int (Int32.ofNat nn)), .val (.int (Int32.ofNat na)), .unset, .unset, .unset, .unset, .unset, .unset, .unset, .unset, .unset, .unset, .unset] [(.int (p0.toInt8.toInt32))]))
  refine Goes.go (fun _ kst => XS.istore X0.here hx rfl (hb hby at_19) rfl (l' := #[.val (.int p0), .val (.int p1), .val (.int p2), .val (.int p3), .val (.int p4), .val (.int p5), .val (.int (Int32.ofNat nn)), .val (.int (Int32.ofNat na)), .val (.int (p0.toInt8.toInt32)), .unset, .unset, .unset, .unset, .unset, .unset, .unset, .unset, .unset, .unset]) rfl kst) ?_
  show Goes p e below s _ _ _ (s₁.setTop (mkF m 21 #[.val (.int p0), .val (.int p1), .val (.int p2), .val (.int p3), .val (.int p4), .val (.int p5), .val (.int (Int32.ofNat nn)), .val (.int (Int32.ofNat na)), .val (.int (p0.toInt8.toInt32)), .unset, .unset, .unset, .unset, .unset, .unset, .unset, .unset, .unset, .unset] []))
  refine Goes.go (fun _ kst => XS.iloadN X0.here hx rfl (hb hby at_21) rfl  kst) ?_
  show Goes p e below s _ _ _ (s₁.setTop (mkF m 22 #[.val (.int p0), .val (.int p1), .val (.int p2), .val (.int p3), .val (.int p4), .val (.int p5), .val (.int (Int32.ofNat nn)), .val (.int (Int32.ofNat na)), .val (.int (p0.toInt8.toInt32)), .unset, .unset, .unset, .unset, .unset, .unset, .unset, .unset, .unset, .unset] [(.int p1)]))
  refine Goes.go (fun _ kst => XS.i2b X0.here hx rfl (hb hby at_22) rfl kst) ?_
  show Goes p e below s _ _ _ (s₁.setTop (mkF m 23 #[.val (.int p0), .val (.int p1), .val (.int p2), .val (.int p3), .val (.int p4), .val (.int p5), .val (.int (Int32.ofNat nn)), .val (.int (Int32.ofNat na)), .val (.int (p0.toInt8.toInt32)), .unset, .unset, .unset, .unset, .unset, .unset, .unset, .unset, .unset, .unset] [(.int (p1.toInt8.toInt32))]))
  refine Goes.go (fun _ kst => XS.istore X0.here hx rfl (hb hby at_23) rfl (l' := #[.val (.int p0), .val (.int p1), .val (.int p2), .val (.int p3), .val (.int p4), .val (.int p5), .val (.int (Int32.ofNat nn)), .val (.int (Int32.ofNat na)), .val (.int (p0.toInt8.toInt32)), .val (.int (p1.toInt8.toInt32)), .unset, .unset, .unset, .unset, .unset, .unset, .unset, .unset, .unset]) rfl kst) ?_
  show Goes p e below s _ _ _ (s₁.setTop (mkF m 25 #[.val (.int p0), .val (.int p1), .val (.int p2), .val (.int p3), .val (.int p4), .val (.int p5), .val (.int (Int32.ofNat nn)), .val (.int (Int32.ofNat na)), .val (.int (p0.toInt8.toInt32)), .val (.int (p1.toInt8.toInt32)), .unset, .unset, .unset, .unset, .unset, .unset, .unset, .unset, .unset] []))
  refine Goes.go (fun _ kst => XS.iloadN X0.here hx rfl (hb hby at_25) rfl  kst) ?_
  show Goes p e below s _ _ _ (s₁.setTop (mkF m 26 #[.val (.int p0), .val (.int p1), .val (.int p2), .val (.int p3), .val (.int p4), .val (.int p5), .val (.int (Int32.ofNat nn)), .val (.int (Int32.ofNat na)), .val (.int (p0.toInt8.toInt32)), .val (.int (p1.toInt8.toInt32)), .unset, .unset, .unset, .unset, .unset, .unset, .unset, .unset, .unset] [(.int p2)]))
  refine Goes.go (fun _ kst => XS.i2b X0.here hx rfl (hb hby at_26) rfl kst) ?_
  show Goes p e below s _ _ _ (s₁.setTop (mkF m 27 #[.val (.int p0), .val (.int p1), .val (.int p2), .val (.int p3), .val (.int p4), .val (.int p5), .val (.int (Int32.ofNat nn)), .val (.int (Int32.ofNat na)), .val (.int (p0.toInt8.toInt32)), .val (.int (p1.toInt8.toInt32)), .unset, .unset, .unset, .unset, .unset, .unset, .unset, .unset, .unset] [(.int (p2.toInt8.toInt32))]))
  refine Goes.go (fun _ kst => XS.istore X0.here hx rfl (hb hby at_27) rfl (l' := #[.val (.int p0), .val (.int p1), .val (.int p2), .val (.int p3), .val (.int p4), .val (.int p5), .val (.int (Int32.ofNat nn)), .val (.int (Int32.ofNat na)), .val (.int (p0.toInt8.toInt32)), .val (.int (p1.toInt8.toInt32)), .val (.int (p2.toInt8.toInt32)), .unset, .unset, .unset, .unset, .unset, .unset, .unset, .unset]) rfl kst) ?_
  show Goes p e below s _ _ _ (s₁.setTop (mkF m 29 #[.val (.int p0), .val (.int p1), .val (.int p2), .val (.int p3), .val (.int p4), .val (.int p5), .val (.int (Int32.ofNat nn)), .val (.int (Int32.ofNat na)), .val (.int (p0.toInt8.toInt32)), .val (.int (p1.toInt8.toInt32)), .val (.int (p2.toInt8.toInt32)), .unset, .unset, .unset, .unset, .unset, .unset, .unset, .unset] []))
  refine Goes.go (fun _ kst => XS.iloadN X0.here hx rfl (hb hby at_29) rfl  kst) ?_
  show Goes p e below s _ _ _ (s₁.setTop (mkF m 30 #[.val (.int p0), .val (.int p1), .val (.int p2), .val (.int p3), .val (.int p4), .val (.int p5), .val (.int (Int32.ofNat nn)), .val (.int (Int32.ofNat na)), .val (.int (p0.toInt8.toInt32)), .val (.int (p1.toInt8.toInt32)), .val (.int (p2.toInt8.toInt32)), .unset, .unset, .unset, .unset, .unset, .unset, .unset, .unset] [(.int p3)]))
  refine Goes.go (fun _ kst => XS.i2b X0.here hx rfl (hb hby at_30) rfl kst) ?_
  show Goes p e below s _ _ _ (s₁.setTop (mkF m 31 #[.val (.int p0), .val (.int p1), .val (.int p2), .val (.int p3), .val (.int p4), .val (.int p5), .val (.int (Int32.ofNat nn)), .val (.int (Int32.ofNat na)), .val (.int (p0.toInt8.toInt32)), .val (.int (p1.toInt8.toInt32)), .val (.int (p2.toInt8.toInt32)), .unset, .unset, .unset, .unset, .unset, .unset, .unset, .unset] [(.int (p3.toInt8.toInt32))]))
  refine Goes.go (fun _ kst => XS.istore X0.here hx rfl (hb hby at_31) rfl (l' := #[.val (.int p0), .val (.int p1), .val (.int p2), .val (.int p3), .val (.int p4), .val (.int p5), .val (.int (Int32.ofNat nn)), .val (.int (Int32.ofNat na)), .val (.int (p0.toInt8.toInt32)), .val (.int (p1.toInt8.toInt32)), .val (.int (p2.toInt8.toInt32)), .val (.int (p3.toInt8.toInt32)), .unset, .unset, .unset, .unset, .unset, .unset, .unset]) rfl kst) ?_
  show Goes p e below s _ _ _ (s₁.setTop (mkF m 33 #[.val (.int p0), .val (.int p1), .val (.int p2), .val (.int p3), .val (.int p4), .val (.int p5), .val (.int (Int32.ofNat nn)), .val (.int (Int32.ofNat na)), .val (.int (p0.toInt8.toInt32)), .val (.int (p1.toInt8.toInt32)), .val (.int (p2.toInt8.toInt32)), .val (.int (p3.toInt8.toInt32)), .unset, .unset, .unset, .unset, .unset, .unset, .unset] []))
  refine Goes.go (fun _ kst => XS.iconst X0.here hx rfl (hb hby at_33) kst) ?_
  show Goes p e below s _ _ _ (s₁.setTop (mkF m 34 #[.val (.int p0), .val (.int p1), .val (.int p2), .val (.int p3), .val (.int p4), .val (.int p5), .val (.int (Int32.ofNat nn)), .val (.int (Int32.ofNat na)), .val (.int (p0.toInt8.toInt32)), .val (.int (p1.toInt8.toInt32)), .val (.int (p2.toInt8.toInt32)), .val (.int (p3.toInt8.toInt32)), .unset, .unset, .unset, .unset, .unset, .unset, .unset] [(.int (4 : Int32))]))
  obtain ⟨T1, h1, X1, e1, E1, A1, EA1, st1⟩ := own_newA X0 hx hZ (hw _ (List.mem_of_getElem? (i := 0) rfl)) e0 (g := (mkF m 34 #[.val (.int p0), .val (.int p1), .val (.int p2), .val (.int p3), .val (.int p4), .val (.int p5), .val (.int (Int32.ofNat nn)), .val (.int (Int32.ofNat na)), .val (.int (p0.toInt8.toInt32)), .val (.int (p1.toInt8.toInt32)), .val (.int (p2.toInt8.toInt32)), .val (.int (p3.toInt8.toInt32)), .unset, .unset, .unset, .unset, .unset, .unset, .unset] [(.int (4 : Int32))])) rfl (hb hby at_34) rfl (n := 4) rfl (cap := 4) (Nat.le_refl _) (by decide) (by decide) (by decide) (by decide) (by decide) (by decide : _ = "[B")
  obtain ⟨b1, g1⟩ : ∃ z, z = h0.size := ⟨_, rfl⟩
  rw [← g1] at A1 EA1 st1
  have gb1 : n0 ≤ b1 := Nat.le_trans Z0 (Nat.le_of_eq g1.symm)
  have sb1 : h0.size ≤ b1 := Nat.le_trans K0.1 (Nat.le_of_eq g1.symm)
  have Z1 := Nat.le_trans Z0 E1.1
  have K1 := Keep.ext K0 E1
  refine Goes.go st1 ?_
  show Goes p e below s _ _ _ (T1.setTop (mkF m 36 #[.val (.int p0), .val (.int p1), .val (.int p2), .val (.int p3), .val (.int p4), .val (.int p5), .val (.int (Int32.ofNat nn)), .val (.int (Int32.ofNat na)), .val (.int (p0.toInt8.toInt32)), .val (.int (p1.toInt8.toInt32)), .val (.int (p2.toInt8.toInt32)), .val (.int (p3.toInt8.toInt32)), .unset, .unset, .unset, .unset, .unset, .unset, .unset] [(.ref b1)]))
  refine Goes.go (fun _ kst => XS.dup X1.here hx rfl (hb hby at_36) rfl rfl kst) ?_
  show Goes p e below s _ _ _ (T1.setTop (mkF m 37 #[.val (.int p0), .val (.int p1), .val (.int p2), .val (.int p3), .val (.int p4), .val (.int p5), .val (.int (Int32.ofNat nn)), .val (.int (Int32.ofNat na)), .val (.int (p0.toInt8.toInt32)), .val (.int (p1.toInt8.toInt32)), .val (.int (p2.toInt8.toInt32)), .val (.int (p3.toInt8.toInt32)), .unset, .unset, .unset, .unset, .unset, .unset, .unset] [(.ref b1), (.ref b1)]))
  refine Goes.go (fun _ kst => XS.iconst X1.here hx rfl (hb hby at_37) kst) ?_
  show Goes p e below s _ _ _ (T1.setTop (mkF m 38 #[.val (.int p0), .val (.int p1), .val (.int p2), .val (.int p3), .val (.int p4), .val (.int p5), .val (.int (Int32.ofNat nn)), .val (.int (Int32.ofNat na)), .val (.int (p0.toInt8.toInt32)), .val (.int (p1.toInt8.toInt32)), .val (.int (p2.toInt8.toInt32)), .val (.int (p3.toInt8.toInt32)), .unset, .unset, .unset, .unset, .unset, .unset, .unset] [(.int (0 : Int32)), (.ref b1), (.ref b1)]))
  refine Goes.go (fun _ kst => XS.iload X1.here hx rfl (hb hby at_38) rfl  kst) ?_
  show Goes p e below s _ _ _ (T1.setTop (mkF m 40 #[.val (.int p0), .val (.int p1), .val (.int p2), .val (.int p3), .val (.int p4), .val (.int p5), .val (.int (Int32.ofNat nn)), .val (.int (Int32.ofNat na)), .val (.int (p0.toInt8.toInt32)), .val (.int (p1.toInt8.toInt32)), .val (.int (p2.toInt8.toInt32)), .val (.int (p3.toInt8.toInt32)), .unset, .unset, .unset, .unset, .unset, .unset, .unset] [(.int (p0.toInt8.toInt32)), (.int (0 : Int32)), (.ref b1), (.ref b1)]))
  obtain ⟨T2, h2, X2, e2, W2, A2, st2⟩ := own_stB X1 hx hZ e1 A1 (i := 0) rfl (by decide) (g := (mkF m 40 #[.val (.int p0), .val (.int p1), .val (.int p2), .val (.int p3), .val (.int p4), .val (.int p5), .val (.int (Int32.ofNat nn)), .val (.int (Int32.ofNat na)), .val (.int (p0.toInt8.toInt32)), .val (.int (p1.toInt8.toInt32)), .val (.int (p2.toInt8.toInt32)), .val (.int (p3.toInt8.toInt32)), .unset, .unset, .unset, .unset, .unset, .unset, .unset] [(.int (p0.toInt8.toInt32)), (.int (0 : Int32)), (.ref b1), (.ref b1)])) rfl rfl (hb hby at_40)
  have N2 := Fr.snoc X2 N0 gb1
  have Z2 := Nat.le_trans Z1 (Keep.of_wr W2).1
  have K2 := Keep.wr K1 W2 (Or.inr sb1)
  refine Goes.go st2 ?_
  show Goes p e below s _ _ _ (T2.setTop (mkF m 41 #[.val (.int p0), .val (.int p1), .val (.int p2), .val (.int p3), .val (.int p4), .val (.int p5), .val (.int (Int32.ofNat nn)), .val (.int (Int32.ofNat na)), .val (.int (p0.toInt8.toInt32)), .val (.int (p1.toInt8.toInt32)), .val (.int (p2.toInt8.toInt32)), .val (.int (p3.toInt8.toInt32)), .unset, .unset, .unset, .unset, .unset, .unset, .unset] [(.ref b1)]))
  refine Goes.go (fun _ kst => XS.dup X2.here hx rfl (hb hby at_41) rfl rfl kst) ?_
  show Goes p e below s _ _ _ (T2.setTop (mkF m 42 #[.val (.int p0), .val (.int p1), .val (.int p2), .val (.int p3), .val (.int p4), .val (.int p5), .val (.int (Int32.ofNat nn)), .val (.int (Int32.ofNat na)), .val (.int (p0.toInt8.toInt32)), .val (.int (p1.toInt8.toInt32)), .val (.int (p2.toInt8.toInt32)), .val (.int (p3.toInt8.toInt32)), .unset, .unset, .unset, .unset, .unset, .unset, .unset] [(.ref b1), (.ref b1)]))
  refine Goes.go (fun _ kst => XS.iconst X2.here hx rfl (hb hby at_42) kst) ?_
  show Goes p e below s _ _ _ (T2.setTop (mkF m 43 #[.val (.int p0), .val (.int p1), .val (.int p2), .val (.int p3), .val (.int p4), .val (.int p5), .val (.int (Int32.ofNat nn)), .val (.int (Int32.ofNat na)), .val (.int (p0.toInt8.toInt32)), .val (.int (p1.toInt8.toInt32)), .val (.int (p2.toInt8.toInt32)), .val (.int (p3.toInt8.toInt32)), .unset, .unset, .unset, .unset, .unset, .unset, .unset] [(.int (1 : Int32)), (.ref b1), (.ref b1)]))
  refine Goes.go (fun _ kst => XS.iload X2.here hx rfl (hb hby at_43) rfl  kst) ?_
  show Goes p e below s _ _ _ (T2.setTop (mkF m 45 #[.val (.int p0), .val (.int p1), .val (.int p2), .val (.int p3), .val (.int p4), .val (.int p5), .val (.int (Int32.ofNat nn)), .val (.int (Int32.ofNat na)), .val (.int (p0.toInt8.toInt32)), .val (.int (p1.toInt8.toInt32)), .val (.int (p2.toInt8.toInt32)), .val (.int (p3.toInt8.toInt32)), .unset, .unset, .unset, .unset, .unset, .unset, .unset] [(.int (p1.toInt8.toInt32)), (.int (1 : Int32)), (.ref b1), (.ref b1)]))
  obtain ⟨T3, h3, X3, e3, W3, A3, st3⟩ := own_stB X2 hx hZ e2 A2 (i := 1) rfl (by decide) (g := (mkF m 45 #[.val (.int p0), .val (.int p1), .val (.int p2), .val (.int p3), .val (.int p4), .val (.int p5), .val (.int (Int32.ofNat nn)), .val (.int (Int32.ofNat na)), .val (.int (p0.toInt8.toInt32)), .val (.int (p1.toInt8.toInt32)), .val (.int (p2.toInt8.toInt32)), .val (.int (p3.toInt8.toInt32)), .unset, .unset, .unset, .unset, .unset, .unset, .unset] [(.int (p1.toInt8.toInt32)), (.int (1 : Int32)), (.ref b1), (.ref b1)])) rfl rfl (hb hby at_45)
  have N3 := Fr.snoc X3 N2 gb1
  have Z3 := Nat.le_trans Z2 (Keep.of_wr W3).1
  have K3 := Keep.wr K2 W3 (Or.inr sb1)
  refine Goes.go st3 ?_
  show Goes p e below s _ _ _ (T3.setTop (mkF m 46 #[.val (.int p0), .val (.int p1), .val (.int p2), .val (.int p3), .val (.int p4), .val (.int p5), .val (.int (Int32.ofNat nn)), .val (.int (Int32.ofNat na)), .val (.int (p0.toInt8.toInt32)), .val (.int (p1.toInt8.toInt32)), .val (.int (p2.toInt8.toInt32)), .val (.int (p3.toInt8.toInt32)), .unset, .unset, .unset, .unset, .unset, .unset, .unset] [(.ref b1)]))
  refine Goes.go (fun _ kst => XS.dup X3.here hx rfl (hb hby at_46) rfl rfl kst) ?_
  show Goes p e below s _ _ _ (T3.setTop (mkF m 47 #[.val (.int p0), .val (.int p1), .val (.int p2), .val (.int p3), .val (.int p4), .val (.int p5), .val (.int (Int32.ofNat nn)), .val (.int (Int32.ofNat na)), .val (.int (p0.toInt8.toInt32)), .val (.int (p1.toInt8.toInt32)), .val (.int (p2.toInt8.toInt32)), .val (.int (p3.toInt8.toInt32)), .unset, .unset, .unset, .unset, .unset, .unset, .unset] [(.ref b1), (.ref b1)]))
  refine Goes.go (fun _ kst => XS.iconst X3.here hx rfl (hb hby at_47) kst) ?_
  show Goes p e below s _ _ _ (T3.setTop (mkF m 48 #[.val (.int p0), .val (.int p1), .val (.int p2), .val (.int p3), .val (.int p4), .val (.int p5), .val (.int (Int32.ofNat nn)), .val (.int (Int32.ofNat na)), .val (.int (p0.toInt8.toInt32)), .val (.int (p1.toInt8.toInt32)), .val (.int (p2.toInt8.toInt32)), .val (.int (p3.toInt8.toInt32)), .unset, .unset, .unset, .unset, .unset, .unset, .unset] [(.int (2 : Int32)), (.ref b1), (.ref b1)]))
  refine Goes.go (fun _ kst => XS.iload X3.here hx rfl (hb hby at_48) rfl  kst) ?_
  show Goes p e below s _ _ _ (T3.setTop (mkF m 50 #[.val (.int p0), .val (.int p1), .val (.int p2), .val (.int p3), .val (.int p4), .val (.int p5), .val (.int (Int32.ofNat nn)), .val (.int (Int32.ofNat na)), .val (.int (p0.toInt8.toInt32)), .val (.int (p1.toInt8.toInt32)), .val (.int (p2.toInt8.toInt32)), .val (.int (p3.toInt8.toInt32)), .unset, .unset, .unset, .unset, .unset, .unset, .unset] [(.int (p2.toInt8.toInt32)), (.int (2 : Int32)), (.ref b1), (.ref b1)]))
  obtain ⟨T4, h4, X4, e4, W4, A4, st4⟩ := own_stB X3 hx hZ e3 A3 (i := 2) rfl (by decide) (g := (mkF m 50 #[.val (.int p0), .val (.int p1), .val (.int p2), .val (.int p3), .val (.int p4), .val (.int p5), .val (.int (Int32.ofNat nn)), .val (.int (Int32.ofNat na)), .val (.int (p0.toInt8.toInt32)), .val (.int (p1.toInt8.toInt32)), .val (.int (p2.toInt8.toInt32)), .val (.int (p3.toInt8.toInt32)), .unset, .unset, .unset, .unset, .unset, .unset, .unset] [(.int (p2.toInt8.toInt32)), (.int (2 : Int32)), (.ref b1), (.ref b1)])) rfl rfl (hb hby at_50)
  have N4 := Fr.snoc X4 N3 gb1
  have Z4 := Nat.le_trans Z3 (Keep.of_wr W4).1
  have K4 := Keep.wr K3 W4 (Or.inr sb1)
  refine Goes.go st4 ?_
  show Goes p e below s _ _ _ (T4.setTop (mkF m 51 #[.val (.int p0), .val (.int p1), .val (.int p2), .val (.int p3), .val (.int p4), .val (.int p5), .val (.int (Int32.ofNat nn)), .val (.int (Int32.ofNat na)), .val (.int (p0.toInt8.toInt32)), .val (.int (p1.toInt8.toInt32)), .val (.int (p2.toInt8.toInt32)), .val (.int (p3.toInt8.toInt32)), .unset, .unset, .unset, .unset, .unset, .unset, .unset] [(.ref b1)]))
  refine Goes.go (fun _ kst => XS.dup X4.here hx rfl (hb hby at_51) rfl rfl kst) ?_
  show Goes p e below s _ _ _ (T4.setTop (mkF m 52 #[.val (.int p0), .val (.int p1), .val (.int p2), .val (.int p3), .val (.int p4), .val (.int p5), .val (.int (Int32.ofNat nn)), .val (.int (Int32.ofNat na)), .val (.int (p0.toInt8.toInt32)), .val (.int (p1.toInt8.toInt32)), .val (.int (p2.toInt8.toInt32)), .val (.int (p3.toInt8.toInt32)), .unset, .unset, .unset, .unset, .unset, .unset, .unset] [(.ref b1), (.ref b1)]))
  refine Goes.go (fun _ kst => XS.iconst X4.here hx rfl (hb hby at_52) kst) ?_
  show Goes p e below s _ _ _ (T4.setTop (mkF m 53 #[.val (.int p0), .val (.int p1), .val (.int p2), .val (.int p3), .val (.int p4), .val (.int p5), .val (.int (Int32.ofNat nn)), .val (.int (Int32.ofNat na)), .val (.int (p0.toInt8.toInt32)), .val (.int (p1.toInt8.toInt32)), .val (.int (p2.toInt8.toInt32)), .val (.int (p3.toInt8.toInt32)), .unset, .unset, .unset, .unset, .unset, .unset, .unset] [(.int (3 : Int32)), (.ref b1), (.ref b1)]))
  refine Goes.go (fun _ kst => XS.iload X4.here hx rfl (hb hby at_53) rfl  kst) ?_
  show Goes p e below s _ _ _ (T4.setTop (mkF m 55 #[.val (.int p0), .val (.int p1), .val (.int p2), .val (.int p3), .val (.int p4), .val (.int p5), .val (.int (Int32.ofNat nn)), .val (.int (Int32.ofNat na)), .val (.int (p0.toInt8.toInt32)), .val (.int (p1.toInt8.toInt32)), .val (.int (p2.toInt8.toInt32)), .val (.int (p3.toInt8.toInt32)), .unset, .unset, .unset, .unset, .unset, .unset, .unset] [(.int (p3.toInt8.toInt32)), (.int (3 : Int32)), (.ref b1), (.ref b1)]))
  obtain ⟨T5, h5, X5, e5, W5, A5, st5⟩ := own_stB X4 hx hZ e4 A4 (i := 3) rfl (by decide) (g := (mkF m 55 #[.val (.int p0), .val (.int p1), .val (.int p2), .val (.int p3), .val (.int p4), .val (.int p5), .val (.int (Int32.ofNat nn)), .val (.int (Int32.ofNat na)), .val (.int (p0.toInt8.toInt32)), .val (.int (p1.toInt8.toInt32)), .val (.int (p2.toInt8.toInt32)), .val (.int (p3.toInt8.toInt32)), .unset, .unset, .unset, .unset, .unset, .unset, .unset] [(.int (p3.toInt8.toInt32)), (.int (3 : Int32)), (.ref b1), (.ref b1)])) rfl rfl (hb hby at_55)
  have N5 := Fr.snoc X5 N4 gb1
  have Z5 := Nat.le_trans Z4 (Keep.of_wr W5).1
  have K5 := Keep.wr K4 W5 (Or.inr sb1)
  refine Goes.go st5 ?_
  show Goes p e below s _ _ _ (T5.setTop (mkF m 56 #[.val (.int p0), .val (.int p1), .val (.int p2), .val (.int p3), .val (.int p4), .val (.int p5), .val (.int (Int32.ofNat nn)), .val (.int (Int32.ofNat na)), .val (.int (p0.toInt8.toInt32)), .val (.int (p1.toInt8.toInt32)), .val (.int (p2.toInt8.toInt32)), .val (.int (p3.toInt8.toInt32)), .unset, .unset, .unset, .unset, .unset, .unset, .unset] [(.ref b1)]))
  refine Goes.go (fun _ kst => XS.astore X5.here hx rfl (hb hby at_56) rfl rfl (l' := #[.val (.int p0), .val (.int p1), .val (.int p2), .val (.int p3), .val (.int p4), .val (.int p5), .val (.int (Int32.ofNat nn)), .val (.int (Int32.ofNat na)), .val (.int (p0.toInt8.toInt32)), .val (.int (p1.toInt8.toInt32)), .val (.int (p2.toInt8.toInt32)), .val (.int (p3.toInt8.toInt32)), .val (.ref b1), .unset, .unset, .unset, .unset, .unset, .unset]) rfl kst) ?_
  have An6 := A5
  obtain ⟨vv, hvv⟩ : ∃ f : Nat → Int32, f = (own_upd (own_upd (own_upd (own_upd (fun _ => 0) 0 (nar .byte (p0.toInt8.toInt32))) 1 (nar .byte (p1.toInt8.toInt32))) 2 (nar .byte (p2.toInt8.toInt32))) 3 (nar .byte (p3.toInt8.toInt32))) := ⟨_, rfl⟩
  rw [← hvv] at An6
  have hvb : ∀ i, i < 4 → nar .byte (vv i) = vv i := by
    intro i hi
    have : i = 0 ∨ i = 1 ∨ i = 2 ∨ i = 3 := by omega
    subst hvv
    rcases this with rfl | rfl | rfl | rfl <;> exact own_nb _
  have J502 : ∀ (bb tx : Addr) (x16 x17 : Int32) (tt : Nat → Int32) (ht : ∀ i, i < 15 → tt i = nar .byte (p5.toInt8.toInt32)) {TJ : State} {lj : List Loc} {hJ : Heap} (XJ : Stand p l e room_1 s m #[(.int p0), (.int p1), (.int p2), (.int p3), (.int p4), (.int p5)] below meth c TJ lj 3 23) (eJ : TJ.heap = hJ) (NJ : Fr n0 lj) (ZJ : n0 ≤ hJ.size) (KJ : Keep h0 hJ []) (AT15 : IA Z hJ tx .byte 15 (own_fmt vv nn 0 na tt)) (AV12 : IA Z hJ b1 .byte 4 vv), Goes p e below s (Q0 n0) room_1.cells room_1.slots (TJ.setTop (mkF m 502 #[.val (.int p0), .val (.int p1), .val (.int p2), .val (.int p3), .val (.int p4), .val (.int p5), .val (.int (Int32.ofNat nn)), .val (.int (Int32.ofNat na)), .val (.int (p0.toInt8.toInt32)), .val (.int (p1.toInt8.toInt32)), .val (.int (p2.toInt8.toInt32)), .val (.int (p3.toInt8.toInt32)), .val (.ref b1), .val (.ref bb), .val (.int (p5.toInt8.toInt32)), .val (.ref tx), .val (.int x16), .val (.int x17), .val (.int (1 : Int32))] [])) := by
    intro bb tx x16 x17 tt ht TJ lj hJ XJ eJ NJ ZJ KJ AT15 AV12
    show Goes p e below s _ _ _ (TJ.setTop (mkF m 502 #[.val (.int p0), .val (.int p1), .val (.int p2), .val (.int p3), .val (.int p4), .val (.int p5), .val (.int (Int32.ofNat nn)), .val (.int (Int32.ofNat na)), .val (.int (p0.toInt8.toInt32)), .val (.int (p1.toInt8.toInt32)), .val (.int (p2.toInt8.toInt32)), .val (.int (p3.toInt8.toInt32)), .val (.ref b1), .val (.ref bb), .val (.int (p5.toInt8.toInt32)), .val (.ref tx), .val (.int x16), .val (.int x17), .val (.int (1 : Int32))] []))
    refine Goes.go (fun _ kst => XS.iload XJ.here hx rfl (hb hby at_502) rfl  kst) ?_
    show Goes p e below s _ _ _ (TJ.setTop (mkF m 504 #[.val (.int p0), .val (.int p1), .val (.int p2), .val (.int p3), .val (.int p4), .val (.int p5), .val (.int (Int32.ofNat nn)), .val (.int (Int32.ofNat na)), .val (.int (p0.toInt8.toInt32)), .val (.int (p1.toInt8.toInt32)), .val (.int (p2.toInt8.toInt32)), .val (.int (p3.toInt8.toInt32)), .val (.ref b1), .val (.ref bb), .val (.int (p5.toInt8.toInt32)), .val (.ref tx), .val (.int x16), .val (.int x17), .val (.int (1 : Int32))] [(.int (1 : Int32))]))
    refine Goes.go (fun _ kst => XS.aload XJ.here hx rfl (hb hby at_504) rfl rfl  kst) ?_
    show Goes p e below s _ _ _ (TJ.setTop (mkF m 506 #[.val (.int p0), .val (.int p1), .val (.int p2), .val (.int p3), .val (.int p4), .val (.int p5), .val (.int (Int32.ofNat nn)), .val (.int (Int32.ofNat na)), .val (.int (p0.toInt8.toInt32)), .val (.int (p1.toInt8.toInt32)), .val (.int (p2.toInt8.toInt32)), .val (.int (p3.toInt8.toInt32)), .val (.ref b1), .val (.ref bb), .val (.int (p5.toInt8.toInt32)), .val (.ref tx), .val (.int x16), .val (.int x17), .val (.int (1 : Int32))] [(.ref tx), (.int (1 : Int32))]))
    refine Goes.go (fun _ kst => XS.bipush XJ.here hx rfl (hb hby at_506) kst) ?_
    show Goes p e below s _ _ _ (TJ.setTop (mkF m 508 #[.val (.int p0), .val (.int p1), .val (.int p2), .val (.int p3), .val (.int p4), .val (.int p5), .val (.int (Int32.ofNat nn)), .val (.int (Int32.ofNat na)), .val (.int (p0.toInt8.toInt32)), .val (.int (p1.toInt8.toInt32)), .val (.int (p2.toInt8.toInt32)), .val (.int (p3.toInt8.toInt32)), .val (.ref b1), .val (.ref bb), .val (.int (p5.toInt8.toInt32)), .val (.ref tx), .val (.int x16), .val (.int x17), .val (.int (1 : Int32))] [(.int (10 : Int32)), (.ref tx), (.int (1 : Int32))]))
    refine Goes.go (fun _ kst => XS.iload XJ.here hx rfl (hb hby at_508) rfl  kst) ?_
    show Goes p e below s _ _ _ (TJ.setTop (mkF m 510 #[.val (.int p0), .val (.int p1), .val (.int p2), .val (.int p3), .val (.int p4), .val (.int p5), .val (.int (Int32.ofNat nn)), .val (.int (Int32.ofNat na)), .val (.int (p0.toInt8.toInt32)), .val (.int (p1.toInt8.toInt32)), .val (.int (p2.toInt8.toInt32)), .val (.int (p3.toInt8.toInt32)), .val (.ref b1), .val (.ref bb), .val (.int (p5.toInt8.toInt32)), .val (.ref tx), .val (.int x16), .val (.int x17), .val (.int (1 : Int32))] [(.int (Int32.ofNat na)), (.int (10 : Int32)), (.ref tx), (.int (1 : Int32))]))
    refine Goes.go (fun _ kst => XS.iload XJ.here hx rfl (hb hby at_510) rfl  kst) ?_
    show Goes p e below s _ _ _ (TJ.setTop (mkF m 512 #[.val (.int p0), .val (.int p1), .val (.int p2), .val (.int p3), .val (.int p4), .val (.int p5), .val (.int (Int32.ofNat nn)), .val (.int (Int32.ofNat na)), .val (.int (p0.toInt8.toInt32)), .val (.int (p1.toInt8.toInt32)), .val (.int (p2.toInt8.toInt32)), .val (.int (p3.toInt8.toInt32)), .val (.ref b1), .val (.ref bb), .val (.int (p5.toInt8.toInt32)), .val (.ref tx), .val (.int x16), .val (.int x17), .val (.int (1 : Int32))] [(.int (Int32.ofNat nn)), (.int (Int32.ofNat na)), (.int (10 : Int32)), (.ref tx), (.int (1 : Int32))]))
    refine Goes.go (fun _ kst => XS.aload XJ.here hx rfl (hb hby at_512) rfl rfl  kst) ?_
    show Goes p e below s _ _ _ (TJ.setTop (mkF m 514 #[.val (.int p0), .val (.int p1), .val (.int p2), .val (.int p3), .val (.int p4), .val (.int p5), .val (.int (Int32.ofNat nn)), .val (.int (Int32.ofNat na)), .val (.int (p0.toInt8.toInt32)), .val (.int (p1.toInt8.toInt32)), .val (.int (p2.toInt8.toInt32)), .val (.int (p3.toInt8.toInt32)), .val (.ref b1), .val (.ref bb), .val (.int (p5.toInt8.toInt32)), .val (.ref tx), .val (.int x16), .val (.int x17), .val (.int (1 : Int32))] [(.ref b1), (.int (Int32.ofNat nn)), (.int (Int32.ofNat na)), (.int (10 : Int32)), (.ref tx), (.int (1 : Int32))]))
    refine Goes.go (fun _ kst => XS.iload XJ.here hx rfl (hb hby at_514) rfl  kst) ?_
    show Goes p e below s _ _ _ (TJ.setTop (mkF m 516 #[.val (.int p0), .val (.int p1), .val (.int p2), .val (.int p3), .val (.int p4), .val (.int p5), .val (.int (Int32.ofNat nn)), .val (.int (Int32.ofNat na)), .val (.int (p0.toInt8.toInt32)), .val (.int (p1.toInt8.toInt32)), .val (.int (p2.toInt8.toInt32)), .val (.int (p3.toInt8.toInt32)), .val (.ref b1), .val (.ref bb), .val (.int (p5.toInt8.toInt32)), .val (.ref tx), .val (.int x16), .val (.int x17), .val (.int (1 : Int32))] [(.int (p5.toInt8.toInt32)), (.ref b1), (.int (Int32.ofNat nn)), (.int (Int32.ofNat na)), (.int (10 : Int32)), (.ref tx), (.int (1 : Int32))]))
    obtain ⟨_, _, ⟨T7, L7, k7, n7⟩, -, X7, ⟨Lc7, hQ7, l7, y7, z7⟩, st7⟩ := Jvm.LawKit.callS XJ hx (y := (⟨"org/cardprobe/HexFormatPinLaw", "cell", "([BIII[BB)Z"⟩ : MethodName)) hown (mvT hZ (hw _ (List.mem_of_getElem? (i := 5) rfl))) (mvT hZ (hw _ (List.mem_of_getElem? (i := 6) rfl))) (mvT hZ (hw _ (List.mem_of_getElem? (i := 7) rfl))) (mvT hZ (hw _ (List.mem_of_getElem? (i := 8) rfl))) (by decide) (backOf (W := 1) (rm2 l Z a0 hw [] tx b1 (p5.toInt8.toInt32) 15 (own_fmt vv nn 0 na tt) 4 vv 10 na nn hJ n0 ZJ AT15 AV12 (by decide) hna hnn rfl rfl) hZ (hw _ (List.mem_of_getElem? (i := 8) rfl)) (hw _ (List.mem_of_getElem? (i := 7) rfl)) (by decide) (by decide)) (g := (mkF m 516 #[.val (.int p0), .val (.int p1), .val (.int p2), .val (.int p3), .val (.int p4), .val (.int p5), .val (.int (Int32.ofNat nn)), .val (.int (Int32.ofNat na)), .val (.int (p0.toInt8.toInt32)), .val (.int (p1.toInt8.toInt32)), .val (.int (p2.toInt8.toInt32)), .val (.int (p3.toInt8.toInt32)), .val (.ref b1), .val (.ref bb), .val (.int (p5.toInt8.toInt32)), .val (.ref tx), .val (.int x16), .val (.int x17), .val (.int (1 : Int32))] [(.int (p5.toInt8.toInt32)), (.ref b1), (.int (Int32.ofNat nn)), (.int (Int32.ofNat na)), (.int (10 : Int32)), (.ref tx), (.int (1 : Int32))])) rfl (by rw [hml]; rfl) (argsL := [(.ref tx), (.int (10 : Int32)), (.int (Int32.ofNat na)), (.int (Int32.ofNat nn)), (.ref b1), (.int (p5.toInt8.toInt32))]) (rest := [(.int (1 : Int32))]) (lenOf pd_1 rfl) rfl (by show 2 * 0 + _ ≤ _; exact Nat.le_of_eq rfl) (hb hby at_516) (fun _ _ => ⟨rfl, eJ, (by decide : 3 + 0 ≤ _), (by decide : 23 + 0 ≤ _)⟩)
    dsimp only [Pt.U, Pt.locs, Pt.cells, Pt.slots] at X7 l7 y7 z7 st7 hQ7
    subst l7 y7 z7
    obtain ⟨rfl, N7q, e7⟩ := hQ7
    have N7 := Fr.app NJ N7q
    refine Goes.go st7 ?_
    rw [show (f2 tx b1 (p5.toInt8.toInt32) 15 (own_fmt vv nn 0 na tt) 4 vv 10 na nn) = (1 : Int32) from own_c10 hna hnn hvb ht]
    show Goes p e below s _ _ _ (T7.setTop (mkF m 519 #[.val (.int p0), .val (.int p1), .val (.int p2), .val (.int p3), .val (.int p4), .val (.int p5), .val (.int (Int32.ofNat nn)), .val (.int (Int32.ofNat na)), .val (.int (p0.toInt8.toInt32)), .val (.int (p1.toInt8.toInt32)), .val (.int (p2.toInt8.toInt32)), .val (.int (p3.toInt8.toInt32)), .val (.ref b1), .val (.ref bb), .val (.int (p5.toInt8.toInt32)), .val (.ref tx), .val (.int x16), .val (.int x17), .val (.int (1 : Int32))] [(.int (1 : Int32)), (.int (1 : Int32))]))
    refine Goes.go (fun _ kst => XS.iand X7.here hx rfl (hb hby at_519) rfl kst) ?_
    rw [show ((1 : Int32) &&& (1 : Int32)) = (1 : Int32) from by decide]
    show Goes p e below s _ _ _ (T7.setTop (mkF m 520 #[.val (.int p0), .val (.int p1), .val (.int p2), .val (.int p3), .val (.int p4), .val (.int p5), .val (.int (Int32.ofNat nn)), .val (.int (Int32.ofNat na)), .val (.int (p0.toInt8.toInt32)), .val (.int (p1.toInt8.toInt32)), .val (.int (p2.toInt8.toInt32)), .val (.int (p3.toInt8.toInt32)), .val (.ref b1), .val (.ref bb), .val (.int (p5.toInt8.toInt32)), .val (.ref tx), .val (.int x16), .val (.int x17), .val (.int (1 : Int32))] [(.int (1 : Int32))]))
    refine Goes.go (fun _ kst => XS.istore X7.here hx rfl (hb hby at_520) rfl (l' := #[.val (.int p0), .val (.int p1), .val (.int p2), .val (.int p3), .val (.int p4), .val (.int p5), .val (.int (Int32.ofNat nn)), .val (.int (Int32.ofNat na)), .val (.int (p0.toInt8.toInt32)), .val (.int (p1.toInt8.toInt32)), .val (.int (p2.toInt8.toInt32)), .val (.int (p3.toInt8.toInt32)), .val (.ref b1), .val (.ref bb), .val (.int (p5.toInt8.toInt32)), .val (.ref tx), .val (.int x16), .val (.int x17), .val (.int (1 : Int32))]) rfl kst) ?_
    show Goes p e below s _ _ _ (T7.setTop (mkF m 522 #[.val (.int p0), .val (.int p1), .val (.int p2), .val (.int p3), .val (.int p4), .val (.int p5), .val (.int (Int32.ofNat nn)), .val (.int (Int32.ofNat na)), .val (.int (p0.toInt8.toInt32)), .val (.int (p1.toInt8.toInt32)), .val (.int (p2.toInt8.toInt32)), .val (.int (p3.toInt8.toInt32)), .val (.ref b1), .val (.ref bb), .val (.int (p5.toInt8.toInt32)), .val (.ref tx), .val (.int x16), .val (.int x17), .val (.int (1 : Int32))] []))
    refine Goes.go (fun _ kst => XS.iload X7.here hx rfl (hb hby at_522) rfl  kst) ?_
    show Goes p e below s _ _ _ (T7.setTop (mkF m 524 #[.val (.int p0), .val (.int p1), .val (.int p2), .val (.int p3), .val (.int p4), .val (.int p5), .val (.int (Int32.ofNat nn)), .val (.int (Int32.ofNat na)), .val (.int (p0.toInt8.toInt32)), .val (.int (p1.toInt8.toInt32)), .val (.int (p2.toInt8.toInt32)), .val (.int (p3.toInt8.toInt32)), .val (.ref b1), .val (.ref bb), .val (.int (p5.toInt8.toInt32)), .val (.ref tx), .val (.int x16), .val (.int x17), .val (.int (1 : Int32))] [(.int (1 : Int32))]))
    refine Goes.go (fun _ kst => XS.aload X7.here hx rfl (hb hby at_524) rfl rfl  kst) ?_
    show Goes p e below s _ _ _ (T7.setTop (mkF m 526 #[.val (.int p0), .val (.int p1), .val (.int p2), .val (.int p3), .val (.int p4), .val (.int p5), .val (.int (Int32.ofNat nn)), .val (.int (Int32.ofNat na)), .val (.int (p0.toInt8.toInt32)), .val (.int (p1.toInt8.toInt32)), .val (.int (p2.toInt8.toInt32)), .val (.int (p3.toInt8.toInt32)), .val (.ref b1), .val (.ref bb), .val (.int (p5.toInt8.toInt32)), .val (.ref tx), .val (.int x16), .val (.int x17), .val (.int (1 : Int32))] [(.ref tx), (.int (1 : Int32))]))
    refine Goes.go (fun _ kst => XS.bipush X7.here hx rfl (hb hby at_526) kst) ?_
    show Goes p e below s _ _ _ (T7.setTop (mkF m 528 #[.val (.int p0), .val (.int p1), .val (.int p2), .val (.int p3), .val (.int p4), .val (.int p5), .val (.int (Int32.ofNat nn)), .val (.int (Int32.ofNat na)), .val (.int (p0.toInt8.toInt32)), .val (.int (p1.toInt8.toInt32)), .val (.int (p2.toInt8.toInt32)), .val (.int (p3.toInt8.toInt32)), .val (.ref b1), .val (.ref bb), .val (.int (p5.toInt8.toInt32)), .val (.ref tx), .val (.int x16), .val (.int x17), .val (.int (1 : Int32))] [(.int (11 : Int32)), (.ref tx), (.int (1 : Int32))]))
    refine Goes.go (fun _ kst => XS.iload X7.here hx rfl (hb hby at_528) rfl  kst) ?_
    show Goes p e below s _ _ _ (T7.setTop (mkF m 530 #[.val (.int p0), .val (.int p1), .val (.int p2), .val (.int p3), .val (.int p4), .val (.int p5), .val (.int (Int32.ofNat nn)), .val (.int (Int32.ofNat na)), .val (.int (p0.toInt8.toInt32)), .val (.int (p1.toInt8.toInt32)), .val (.int (p2.toInt8.toInt32)), .val (.int (p3.toInt8.toInt32)), .val (.ref b1), .val (.ref bb), .val (.int (p5.toInt8.toInt32)), .val (.ref tx), .val (.int x16), .val (.int x17), .val (.int (1 : Int32))] [(.int (Int32.ofNat na)), (.int (11 : Int32)), (.ref tx), (.int (1 : Int32))]))
    refine Goes.go (fun _ kst => XS.iload X7.here hx rfl (hb hby at_530) rfl  kst) ?_
    show Goes p e below s _ _ _ (T7.setTop (mkF m 532 #[.val (.int p0), .val (.int p1), .val (.int p2), .val (.int p3), .val (.int p4), .val (.int p5), .val (.int (Int32.ofNat nn)), .val (.int (Int32.ofNat na)), .val (.int (p0.toInt8.toInt32)), .val (.int (p1.toInt8.toInt32)), .val (.int (p2.toInt8.toInt32)), .val (.int (p3.toInt8.toInt32)), .val (.ref b1), .val (.ref bb), .val (.int (p5.toInt8.toInt32)), .val (.ref tx), .val (.int x16), .val (.int x17), .val (.int (1 : Int32))] [(.int (Int32.ofNat nn)), (.int (Int32.ofNat na)), (.int (11 : Int32)), (.ref tx), (.int (1 : Int32))]))
    refine Goes.go (fun _ kst => XS.aload X7.here hx rfl (hb hby at_532) rfl rfl  kst) ?_
    show Goes p e below s _ _ _ (T7.setTop (mkF m 534 #[.val (.int p0), .val (.int p1), .val (.int p2), .val (.int p3), .val (.int p4), .val (.int p5), .val (.int (Int32.ofNat nn)), .val (.int (Int32.ofNat na)), .val (.int (p0.toInt8.toInt32)), .val (.int (p1.toInt8.toInt32)), .val (.int (p2.toInt8.toInt32)), .val (.int (p3.toInt8.toInt32)), .val (.ref b1), .val (.ref bb), .val (.int (p5.toInt8.toInt32)), .val (.ref tx), .val (.int x16), .val (.int x17), .val (.int (1 : Int32))] [(.ref b1), (.int (Int32.ofNat nn)), (.int (Int32.ofNat na)), (.int (11 : Int32)), (.ref tx), (.int (1 : Int32))]))
    refine Goes.go (fun _ kst => XS.iload X7.here hx rfl (hb hby at_534) rfl  kst) ?_
    show Goes p e below s _ _ _ (T7.setTop (mkF m 536 #[.val (.int p0), .val (.int p1), .val (.int p2), .val (.int p3), .val (.int p4), .val (.int p5), .val (.int (Int32.ofNat nn)), .val (.int (Int32.ofNat na)), .val (.int (p0.toInt8.toInt32)), .val (.int (p1.toInt8.toInt32)), .val (.int (p2.toInt8.toInt32)), .val (.int (p3.toInt8.toInt32)), .val (.ref b1), .val (.ref bb), .val (.int (p5.toInt8.toInt32)), .val (.ref tx), .val (.int x16), .val (.int x17), .val (.int (1 : Int32))] [(.int (p5.toInt8.toInt32)), (.ref b1), (.int (Int32.ofNat nn)), (.int (Int32.ofNat na)), (.int (11 : Int32)), (.ref tx), (.int (1 : Int32))]))
    obtain ⟨_, _, ⟨T8, L8, k8, n8⟩, -, X8, ⟨Lc8, hQ8, l8, y8, z8⟩, st8⟩ := Jvm.LawKit.callS X7 hx (y := (⟨"org/cardprobe/HexFormatPinLaw", "cell", "([BIII[BB)Z"⟩ : MethodName)) hown (mvT hZ (hw _ (List.mem_of_getElem? (i := 5) rfl))) (mvT hZ (hw _ (List.mem_of_getElem? (i := 6) rfl))) (mvT hZ (hw _ (List.mem_of_getElem? (i := 7) rfl))) (mvT hZ (hw _ (List.mem_of_getElem? (i := 8) rfl))) (by decide) (backOf (W := 1) (rm2 l Z a0 hw [] tx b1 (p5.toInt8.toInt32) 15 (own_fmt vv nn 0 na tt) 4 vv 11 na nn hJ n0 ZJ AT15 AV12 (by decide) hna hnn rfl rfl) hZ (hw _ (List.mem_of_getElem? (i := 8) rfl)) (hw _ (List.mem_of_getElem? (i := 7) rfl)) (by decide) (by decide)) (g := (mkF m 536 #[.val (.int p0), .val (.int p1), .val (.int p2), .val (.int p3), .val (.int p4), .val (.int p5), .val (.int (Int32.ofNat nn)), .val (.int (Int32.ofNat na)), .val (.int (p0.toInt8.toInt32)), .val (.int (p1.toInt8.toInt32)), .val (.int (p2.toInt8.toInt32)), .val (.int (p3.toInt8.toInt32)), .val (.ref b1), .val (.ref bb), .val (.int (p5.toInt8.toInt32)), .val (.ref tx), .val (.int x16), .val (.int x17), .val (.int (1 : Int32))] [(.int (p5.toInt8.toInt32)), (.ref b1), (.int (Int32.ofNat nn)), (.int (Int32.ofNat na)), (.int (11 : Int32)), (.ref tx), (.int (1 : Int32))])) rfl (by rw [hml]; rfl) (argsL := [(.ref tx), (.int (11 : Int32)), (.int (Int32.ofNat na)), (.int (Int32.ofNat nn)), (.ref b1), (.int (p5.toInt8.toInt32))]) (rest := [(.int (1 : Int32))]) (lenOf pd_1 rfl) rfl (by show 2 * 0 + _ ≤ _; exact Nat.le_of_eq rfl) (hb hby at_536) (fun _ _ => ⟨rfl, e7, (by decide : 3 + 0 ≤ _), (by decide : 23 + 0 ≤ _)⟩)
    dsimp only [Pt.U, Pt.locs, Pt.cells, Pt.slots] at X8 l8 y8 z8 st8 hQ8
    subst l8 y8 z8
    obtain ⟨rfl, N8q, e8⟩ := hQ8
    have N8 := Fr.app N7 N8q
    refine Goes.go st8 ?_
    rw [show (f2 tx b1 (p5.toInt8.toInt32) 15 (own_fmt vv nn 0 na tt) 4 vv 11 na nn) = (1 : Int32) from own_c11 hna hnn hvb ht]
    show Goes p e below s _ _ _ (T8.setTop (mkF m 539 #[.val (.int p0), .val (.int p1), .val (.int p2), .val (.int p3), .val (.int p4), .val (.int p5), .val (.int (Int32.ofNat nn)), .val (.int (Int32.ofNat na)), .val (.int (p0.toInt8.toInt32)), .val (.int (p1.toInt8.toInt32)), .val (.int (p2.toInt8.toInt32)), .val (.int (p3.toInt8.toInt32)), .val (.ref b1), .val (.ref bb), .val (.int (p5.toInt8.toInt32)), .val (.ref tx), .val (.int x16), .val (.int x17), .val (.int (1 : Int32))] [(.int (1 : Int32)), (.int (1 : Int32))]))
    refine Goes.go (fun _ kst => XS.iand X8.here hx rfl (hb hby at_539) rfl kst) ?_
    rw [show ((1 : Int32) &&& (1 : Int32)) = (1 : Int32) from by decide]
    show Goes p e below s _ _ _ (T8.setTop (mkF m 540 #[.val (.int p0), .val (.int p1), .val (.int p2), .val (.int p3), .val (.int p4), .val (.int p5), .val (.int (Int32.ofNat nn)), .val (.int (Int32.ofNat na)), .val (.int (p0.toInt8.toInt32)), .val (.int (p1.toInt8.toInt32)), .val (.int (p2.toInt8.toInt32)), .val (.int (p3.toInt8.toInt32)), .val (.ref b1), .val (.ref bb), .val (.int (p5.toInt8.toInt32)), .val (.ref tx), .val (.int x16), .val (.int x17), .val (.int (1 : Int32))] [(.int (1 : Int32))]))
    refine Goes.go (fun _ kst => XS.istore X8.here hx rfl (hb hby at_540) rfl (l' := #[.val (.int p0), .val (.int p1), .val (.int p2), .val (.int p3), .val (.int p4), .val (.int p5), .val (.int (Int32.ofNat nn)), .val (.int (Int32.ofNat na)), .val (.int (p0.toInt8.toInt32)), .val (.int (p1.toInt8.toInt32)), .val (.int (p2.toInt8.toInt32)), .val (.int (p3.toInt8.toInt32)), .val (.ref b1), .val (.ref bb), .val (.int (p5.toInt8.toInt32)), .val (.ref tx), .val (.int x16), .val (.int x17), .val (.int (1 : Int32))]) rfl kst) ?_
    show Goes p e below s _ _ _ (T8.setTop (mkF m 542 #[.val (.int p0), .val (.int p1), .val (.int p2), .val (.int p3), .val (.int p4), .val (.int p5), .val (.int (Int32.ofNat nn)), .val (.int (Int32.ofNat na)), .val (.int (p0.toInt8.toInt32)), .val (.int (p1.toInt8.toInt32)), .val (.int (p2.toInt8.toInt32)), .val (.int (p3.toInt8.toInt32)), .val (.ref b1), .val (.ref bb), .val (.int (p5.toInt8.toInt32)), .val (.ref tx), .val (.int x16), .val (.int x17), .val (.int (1 : Int32))] []))
    refine Goes.go (fun _ kst => XS.iload X8.here hx rfl (hb hby at_542) rfl  kst) ?_
    show Goes p e below s _ _ _ (T8.setTop (mkF m 544 #[.val (.int p0), .val (.int p1), .val (.int p2), .val (.int p3), .val (.int p4), .val (.int p5), .val (.int (Int32.ofNat nn)), .val (.int (Int32.ofNat na)), .val (.int (p0.toInt8.toInt32)), .val (.int (p1.toInt8.toInt32)), .val (.int (p2.toInt8.toInt32)), .val (.int (p3.toInt8.toInt32)), .val (.ref b1), .val (.ref bb), .val (.int (p5.toInt8.toInt32)), .val (.ref tx), .val (.int x16), .val (.int x17), .val (.int (1 : Int32))] [(.int (1 : Int32))]))
    refine Goes.go (fun _ kst => XS.aload X8.here hx rfl (hb hby at_544) rfl rfl  kst) ?_
    show Goes p e below s _ _ _ (T8.setTop (mkF m 546 #[.val (.int p0), .val (.int p1), .val (.int p2), .val (.int p3), .val (.int p4), .val (.int p5), .val (.int (Int32.ofNat nn)), .val (.int (Int32.ofNat na)), .val (.int (p0.toInt8.toInt32)), .val (.int (p1.toInt8.toInt32)), .val (.int (p2.toInt8.toInt32)), .val (.int (p3.toInt8.toInt32)), .val (.ref b1), .val (.ref bb), .val (.int (p5.toInt8.toInt32)), .val (.ref tx), .val (.int x16), .val (.int x17), .val (.int (1 : Int32))] [(.ref tx), (.int (1 : Int32))]))
    refine Goes.go (fun _ kst => XS.bipush X8.here hx rfl (hb hby at_546) kst) ?_
    show Goes p e below s _ _ _ (T8.setTop (mkF m 548 #[.val (.int p0), .val (.int p1), .val (.int p2), .val (.int p3), .val (.int p4), .val (.int p5), .val (.int (Int32.ofNat nn)), .val (.int (Int32.ofNat na)), .val (.int (p0.toInt8.toInt32)), .val (.int (p1.toInt8.toInt32)), .val (.int (p2.toInt8.toInt32)), .val (.int (p3.toInt8.toInt32)), .val (.ref b1), .val (.ref bb), .val (.int (p5.toInt8.toInt32)), .val (.ref tx), .val (.int x16), .val (.int x17), .val (.int (1 : Int32))] [(.int (12 : Int32)), (.ref tx), (.int (1 : Int32))]))
    refine Goes.go (fun _ kst => XS.iload X8.here hx rfl (hb hby at_548) rfl  kst) ?_
    show Goes p e below s _ _ _ (T8.setTop (mkF m 550 #[.val (.int p0), .val (.int p1), .val (.int p2), .val (.int p3), .val (.int p4), .val (.int p5), .val (.int (Int32.ofNat nn)), .val (.int (Int32.ofNat na)), .val (.int (p0.toInt8.toInt32)), .val (.int (p1.toInt8.toInt32)), .val (.int (p2.toInt8.toInt32)), .val (.int (p3.toInt8.toInt32)), .val (.ref b1), .val (.ref bb), .val (.int (p5.toInt8.toInt32)), .val (.ref tx), .val (.int x16), .val (.int x17), .val (.int (1 : Int32))] [(.int (Int32.ofNat na)), (.int (12 : Int32)), (.ref tx), (.int (1 : Int32))]))
    refine Goes.go (fun _ kst => XS.iload X8.here hx rfl (hb hby at_550) rfl  kst) ?_
    show Goes p e below s _ _ _ (T8.setTop (mkF m 552 #[.val (.int p0), .val (.int p1), .val (.int p2), .val (.int p3), .val (.int p4), .val (.int p5), .val (.int (Int32.ofNat nn)), .val (.int (Int32.ofNat na)), .val (.int (p0.toInt8.toInt32)), .val (.int (p1.toInt8.toInt32)), .val (.int (p2.toInt8.toInt32)), .val (.int (p3.toInt8.toInt32)), .val (.ref b1), .val (.ref bb), .val (.int (p5.toInt8.toInt32)), .val (.ref tx), .val (.int x16), .val (.int x17), .val (.int (1 : Int32))] [(.int (Int32.ofNat nn)), (.int (Int32.ofNat na)), (.int (12 : Int32)), (.ref tx), (.int (1 : Int32))]))
    refine Goes.go (fun _ kst => XS.aload X8.here hx rfl (hb hby at_552) rfl rfl  kst) ?_
    show Goes p e below s _ _ _ (T8.setTop (mkF m 554 #[.val (.int p0), .val (.int p1), .val (.int p2), .val (.int p3), .val (.int p4), .val (.int p5), .val (.int (Int32.ofNat nn)), .val (.int (Int32.ofNat na)), .val (.int (p0.toInt8.toInt32)), .val (.int (p1.toInt8.toInt32)), .val (.int (p2.toInt8.toInt32)), .val (.int (p3.toInt8.toInt32)), .val (.ref b1), .val (.ref bb), .val (.int (p5.toInt8.toInt32)), .val (.ref tx), .val (.int x16), .val (.int x17), .val (.int (1 : Int32))] [(.ref b1), (.int (Int32.ofNat nn)), (.int (Int32.ofNat na)), (.int (12 : Int32)), (.ref tx), (.int (1 : Int32))]))
    refine Goes.go (fun _ kst => XS.iload X8.here hx rfl (hb hby at_554) rfl  kst) ?_
    show Goes p e below s _ _ _ (T8.setTop (mkF m 556 #[.val (.int p0), .val (.int p1), .val (.int p2), .val (.int p3), .val (.int p4), .val (.int p5), .val (.int (Int32.ofNat nn)), .val (.int (Int32.ofNat na)), .val (.int (p0.toInt8.toInt32)), .val (.int (p1.toInt8.toInt32)), .val (.int (p2.toInt8.toInt32)), .val (.int (p3.toInt8.toInt32)), .val (.ref b1), .val (.ref bb), .val (.int (p5.toInt8.toInt32)), .val (.ref tx), .val (.int x16), .val (.int x17), .val (.int (1 : Int32))] [(.int (p5.toInt8.toInt32)), (.ref b1), (.int (Int32.ofNat nn)), (.int (Int32.ofNat na)), (.int (12 : Int32)), (.ref tx), (.int (1 : Int32))]))
    obtain ⟨_, _, ⟨T9, L9, k9, n9⟩, -, X9, ⟨Lc9, hQ9, l9, y9, z9⟩, st9⟩ := Jvm.LawKit.callS X8 hx (y := (⟨"org/cardprobe/HexFormatPinLaw", "cell", "([BIII[BB)Z"⟩ : MethodName)) hown (mvT hZ (hw _ (List.mem_of_getElem? (i := 5) rfl))) (mvT hZ (hw _ (List.mem_of_getElem? (i := 6) rfl))) (mvT hZ (hw _ (List.mem_of_getElem? (i := 7) rfl))) (mvT hZ (hw _ (List.mem_of_getElem? (i := 8) rfl))) (by decide) (backOf (W := 1) (rm2 l Z a0 hw [] tx b1 (p5.toInt8.toInt32) 15 (own_fmt vv nn 0 na tt) 4 vv 12 na nn hJ n0 ZJ AT15 AV12 (by decide) hna hnn rfl rfl) hZ (hw _ (List.mem_of_getElem? (i := 8) rfl)) (hw _ (List.mem_of_getElem? (i := 7) rfl)) (by decide) (by decide)) (g := (mkF m 556 #[.val (.int p0), .val (.int p1), .val (.int p2), .val (.int p3), .val (.int p4), .val (.int p5), .val (.int (Int32.ofNat nn)), .val (.int (Int32.ofNat na)), .val (.int (p0.toInt8.toInt32)), .val (.int (p1.toInt8.toInt32)), .val (.int (p2.toInt8.toInt32)), .val (.int (p3.toInt8.toInt32)), .val (.ref b1), .val (.ref bb), .val (.int (p5.toInt8.toInt32)), .val (.ref tx), .val (.int x16), .val (.int x17), .val (.int (1 : Int32))] [(.int (p5.toInt8.toInt32)), (.ref b1), (.int (Int32.ofNat nn)), (.int (Int32.ofNat na)), (.int (12 : Int32)), (.ref tx), (.int (1 : Int32))])) rfl (by rw [hml]; rfl) (argsL := [(.ref tx), (.int (12 : Int32)), (.int (Int32.ofNat na)), (.int (Int32.ofNat nn)), (.ref b1), (.int (p5.toInt8.toInt32))]) (rest := [(.int (1 : Int32))]) (lenOf pd_1 rfl) rfl (by show 2 * 0 + _ ≤ _; exact Nat.le_of_eq rfl) (hb hby at_556) (fun _ _ => ⟨rfl, e8, (by decide : 3 + 0 ≤ _), (by decide : 23 + 0 ≤ _)⟩)
    dsimp only [Pt.U, Pt.locs, Pt.cells, Pt.slots] at X9 l9 y9 z9 st9 hQ9
    subst l9 y9 z9
    obtain ⟨rfl, N9q, e9⟩ := hQ9
    have N9 := Fr.app N8 N9q
    refine Goes.go st9 ?_
    rw [show (f2 tx b1 (p5.toInt8.toInt32) 15 (own_fmt vv nn 0 na tt) 4 vv 12 na nn) = (1 : Int32) from own_c12 hna hnn hvb ht]
    show Goes p e below s _ _ _ (T9.setTop (mkF m 559 #[.val (.int p0), .val (.int p1), .val (.int p2), .val (.int p3), .val (.int p4), .val (.int p5), .val (.int (Int32.ofNat nn)), .val (.int (Int32.ofNat na)), .val (.int (p0.toInt8.toInt32)), .val (.int (p1.toInt8.toInt32)), .val (.int (p2.toInt8.toInt32)), .val (.int (p3.toInt8.toInt32)), .val (.ref b1), .val (.ref bb), .val (.int (p5.toInt8.toInt32)), .val (.ref tx), .val (.int x16), .val (.int x17), .val (.int (1 : Int32))] [(.int (1 : Int32)), (.int (1 : Int32))]))
    refine Goes.go (fun _ kst => XS.iand X9.here hx rfl (hb hby at_559) rfl kst) ?_
    rw [show ((1 : Int32) &&& (1 : Int32)) = (1 : Int32) from by decide]
    show Goes p e below s _ _ _ (T9.setTop (mkF m 560 #[.val (.int p0), .val (.int p1), .val (.int p2), .val (.int p3), .val (.int p4), .val (.int p5), .val (.int (Int32.ofNat nn)), .val (.int (Int32.ofNat na)), .val (.int (p0.toInt8.toInt32)), .val (.int (p1.toInt8.toInt32)), .val (.int (p2.toInt8.toInt32)), .val (.int (p3.toInt8.toInt32)), .val (.ref b1), .val (.ref bb), .val (.int (p5.toInt8.toInt32)), .val (.ref tx), .val (.int x16), .val (.int x17), .val (.int (1 : Int32))] [(.int (1 : Int32))]))
    refine Goes.go (fun _ kst => XS.istore X9.here hx rfl (hb hby at_560) rfl (l' := #[.val (.int p0), .val (.int p1), .val (.int p2), .val (.int p3), .val (.int p4), .val (.int p5), .val (.int (Int32.ofNat nn)), .val (.int (Int32.ofNat na)), .val (.int (p0.toInt8.toInt32)), .val (.int (p1.toInt8.toInt32)), .val (.int (p2.toInt8.toInt32)), .val (.int (p3.toInt8.toInt32)), .val (.ref b1), .val (.ref bb), .val (.int (p5.toInt8.toInt32)), .val (.ref tx), .val (.int x16), .val (.int x17), .val (.int (1 : Int32))]) rfl kst) ?_
    show Goes p e below s _ _ _ (T9.setTop (mkF m 562 #[.val (.int p0), .val (.int p1), .val (.int p2), .val (.int p3), .val (.int p4), .val (.int p5), .val (.int (Int32.ofNat nn)), .val (.int (Int32.ofNat na)), .val (.int (p0.toInt8.toInt32)), .val (.int (p1.toInt8.toInt32)), .val (.int (p2.toInt8.toInt32)), .val (.int (p3.toInt8.toInt32)), .val (.ref b1), .val (.ref bb), .val (.int (p5.toInt8.toInt32)), .val (.ref tx), .val (.int x16), .val (.int x17), .val (.int (1 : Int32))] []))
    refine Goes.go (fun _ kst => XS.iload X9.here hx rfl (hb hby at_562) rfl  kst) ?_
    show Goes p e below s _ _ _ (T9.setTop (mkF m 564 #[.val (.int p0), .val (.int p1), .val (.int p2), .val (.int p3), .val (.int p4), .val (.int p5), .val (.int (Int32.ofNat nn)), .val (.int (Int32.ofNat na)), .val (.int (p0.toInt8.toInt32)), .val (.int (p1.toInt8.toInt32)), .val (.int (p2.toInt8.toInt32)), .val (.int (p3.toInt8.toInt32)), .val (.ref b1), .val (.ref bb), .val (.int (p5.toInt8.toInt32)), .val (.ref tx), .val (.int x16), .val (.int x17), .val (.int (1 : Int32))] [(.int (1 : Int32))]))
    refine Goes.go (fun _ kst => XS.aload X9.here hx rfl (hb hby at_564) rfl rfl  kst) ?_
    show Goes p e below s _ _ _ (T9.setTop (mkF m 566 #[.val (.int p0), .val (.int p1), .val (.int p2), .val (.int p3), .val (.int p4), .val (.int p5), .val (.int (Int32.ofNat nn)), .val (.int (Int32.ofNat na)), .val (.int (p0.toInt8.toInt32)), .val (.int (p1.toInt8.toInt32)), .val (.int (p2.toInt8.toInt32)), .val (.int (p3.toInt8.toInt32)), .val (.ref b1), .val (.ref bb), .val (.int (p5.toInt8.toInt32)), .val (.ref tx), .val (.int x16), .val (.int x17), .val (.int (1 : Int32))] [(.ref tx), (.int (1 : Int32))]))
    refine Goes.go (fun _ kst => XS.bipush X9.here hx rfl (hb hby at_566) kst) ?_
    show Goes p e below s _ _ _ (T9.setTop (mkF m 568 #[.val (.int p0), .val (.int p1), .val (.int p2), .val (.int p3), .val (.int p4), .val (.int p5), .val (.int (Int32.ofNat nn)), .val (.int (Int32.ofNat na)), .val (.int (p0.toInt8.toInt32)), .val (.int (p1.toInt8.toInt32)), .val (.int (p2.toInt8.toInt32)), .val (.int (p3.toInt8.toInt32)), .val (.ref b1), .val (.ref bb), .val (.int (p5.toInt8.toInt32)), .val (.ref tx), .val (.int x16), .val (.int x17), .val (.int (1 : Int32))] [(.int (13 : Int32)), (.ref tx), (.int (1 : Int32))]))
    refine Goes.go (fun _ kst => XS.iload X9.here hx rfl (hb hby at_568) rfl  kst) ?_
    show Goes p e below s _ _ _ (T9.setTop (mkF m 570 #[.val (.int p0), .val (.int p1), .val (.int p2), .val (.int p3), .val (.int p4), .val (.int p5), .val (.int (Int32.ofNat nn)), .val (.int (Int32.ofNat na)), .val (.int (p0.toInt8.toInt32)), .val (.int (p1.toInt8.toInt32)), .val (.int (p2.toInt8.toInt32)), .val (.int (p3.toInt8.toInt32)), .val (.ref b1), .val (.ref bb), .val (.int (p5.toInt8.toInt32)), .val (.ref tx), .val (.int x16), .val (.int x17), .val (.int (1 : Int32))] [(.int (Int32.ofNat na)), (.int (13 : Int32)), (.ref tx), (.int (1 : Int32))]))
    refine Goes.go (fun _ kst => XS.iload X9.here hx rfl (hb hby at_570) rfl  kst) ?_
    show Goes p e below s _ _ _ (T9.setTop (mkF m 572 #[.val (.int p0), .val (.int p1), .val (.int p2), .val (.int p3), .val (.int p4), .val (.int p5), .val (.int (Int32.ofNat nn)), .val (.int (Int32.ofNat na)), .val (.int (p0.toInt8.toInt32)), .val (.int (p1.toInt8.toInt32)), .val (.int (p2.toInt8.toInt32)), .val (.int (p3.toInt8.toInt32)), .val (.ref b1), .val (.ref bb), .val (.int (p5.toInt8.toInt32)), .val (.ref tx), .val (.int x16), .val (.int x17), .val (.int (1 : Int32))] [(.int (Int32.ofNat nn)), (.int (Int32.ofNat na)), (.int (13 : Int32)), (.ref tx), (.int (1 : Int32))]))
    refine Goes.go (fun _ kst => XS.aload X9.here hx rfl (hb hby at_572) rfl rfl  kst) ?_
    show Goes p e below s _ _ _ (T9.setTop (mkF m 574 #[.val (.int p0), .val (.int p1), .val (.int p2), .val (.int p3), .val (.int p4), .val (.int p5), .val (.int (Int32.ofNat nn)), .val (.int (Int32.ofNat na)), .val (.int (p0.toInt8.toInt32)), .val (.int (p1.toInt8.toInt32)), .val (.int (p2.toInt8.toInt32)), .val (.int (p3.toInt8.toInt32)), .val (.ref b1), .val (.ref bb), .val (.int (p5.toInt8.toInt32)), .val (.ref tx), .val (.int x16), .val (.int x17), .val (.int (1 : Int32))] [(.ref b1), (.int (Int32.ofNat nn)), (.int (Int32.ofNat na)), (.int (13 : Int32)), (.ref tx), (.int (1 : Int32))]))
    refine Goes.go (fun _ kst => XS.iload X9.here hx rfl (hb hby at_574) rfl  kst) ?_
    show Goes p e below s _ _ _ (T9.setTop (mkF m 576 #[.val (.int p0), .val (.int p1), .val (.int p2), .val (.int p3), .val (.int p4), .val (.int p5), .val (.int (Int32.ofNat nn)), .val (.int (Int32.ofNat na)), .val (.int (p0.toInt8.toInt32)), .val (.int (p1.toInt8.toInt32)), .val (.int (p2.toInt8.toInt32)), .val (.int (p3.toInt8.toInt32)), .val (.ref b1), .val (.ref bb), .val (.int (p5.toInt8.toInt32)), .val (.ref tx), .val (.int x16), .val (.int x17), .val (.int (1 : Int32))] [(.int (p5.toInt8.toInt32)), (.ref b1), (.int (Int32.ofNat nn)), (.int (Int32.ofNat na)), (.int (13 : Int32)), (.ref tx), (.int (1 : Int32))]))
    obtain ⟨_, _, ⟨T10, L10, k10, n10⟩, -, X10, ⟨Lc10, hQ10, l10, y10, z10⟩, st10⟩ := Jvm.LawKit.callS X9 hx (y := (⟨"org/cardprobe/HexFormatPinLaw", "cell", "([BIII[BB)Z"⟩ : MethodName)) hown (mvT hZ (hw _ (List.mem_of_getElem? (i := 5) rfl))) (mvT hZ (hw _ (List.mem_of_getElem? (i := 6) rfl))) (mvT hZ (hw _ (List.mem_of_getElem? (i := 7) rfl))) (mvT hZ (hw _ (List.mem_of_getElem? (i := 8) rfl))) (by decide) (backOf (W := 1) (rm2 l Z a0 hw [] tx b1 (p5.toInt8.toInt32) 15 (own_fmt vv nn 0 na tt) 4 vv 13 na nn hJ n0 ZJ AT15 AV12 (by decide) hna hnn rfl rfl) hZ (hw _ (List.mem_of_getElem? (i := 8) rfl)) (hw _ (List.mem_of_getElem? (i := 7) rfl)) (by decide) (by decide)) (g := (mkF m 576 #[.val (.int p0), .val (.int p1), .val (.int p2), .val (.int p3), .val (.int p4), .val (.int p5), .val (.int (Int32.ofNat nn)), .val (.int (Int32.ofNat na)), .val (.int (p0.toInt8.toInt32)), .val (.int (p1.toInt8.toInt32)), .val (.int (p2.toInt8.toInt32)), .val (.int (p3.toInt8.toInt32)), .val (.ref b1), .val (.ref bb), .val (.int (p5.toInt8.toInt32)), .val (.ref tx), .val (.int x16), .val (.int x17), .val (.int (1 : Int32))] [(.int (p5.toInt8.toInt32)), (.ref b1), (.int (Int32.ofNat nn)), (.int (Int32.ofNat na)), (.int (13 : Int32)), (.ref tx), (.int (1 : Int32))])) rfl (by rw [hml]; rfl) (argsL := [(.ref tx), (.int (13 : Int32)), (.int (Int32.ofNat na)), (.int (Int32.ofNat nn)), (.ref b1), (.int (p5.toInt8.toInt32))]) (rest := [(.int (1 : Int32))]) (lenOf pd_1 rfl) rfl (by show 2 * 0 + _ ≤ _; exact Nat.le_of_eq rfl) (hb hby at_576) (fun _ _ => ⟨rfl, e9, (by decide : 3 + 0 ≤ _), (by decide : 23 + 0 ≤ _)⟩)
    dsimp only [Pt.U, Pt.locs, Pt.cells, Pt.slots] at X10 l10 y10 z10 st10 hQ10
    subst l10 y10 z10
    obtain ⟨rfl, N10q, e10⟩ := hQ10
    have N10 := Fr.app N9 N10q
    refine Goes.go st10 ?_
    rw [show (f2 tx b1 (p5.toInt8.toInt32) 15 (own_fmt vv nn 0 na tt) 4 vv 13 na nn) = (1 : Int32) from own_c13 hna hnn hvb ht]
    show Goes p e below s _ _ _ (T10.setTop (mkF m 579 #[.val (.int p0), .val (.int p1), .val (.int p2), .val (.int p3), .val (.int p4), .val (.int p5), .val (.int (Int32.ofNat nn)), .val (.int (Int32.ofNat na)), .val (.int (p0.toInt8.toInt32)), .val (.int (p1.toInt8.toInt32)), .val (.int (p2.toInt8.toInt32)), .val (.int (p3.toInt8.toInt32)), .val (.ref b1), .val (.ref bb), .val (.int (p5.toInt8.toInt32)), .val (.ref tx), .val (.int x16), .val (.int x17), .val (.int (1 : Int32))] [(.int (1 : Int32)), (.int (1 : Int32))]))
    refine Goes.go (fun _ kst => XS.iand X10.here hx rfl (hb hby at_579) rfl kst) ?_
    rw [show ((1 : Int32) &&& (1 : Int32)) = (1 : Int32) from by decide]
    show Goes p e below s _ _ _ (T10.setTop (mkF m 580 #[.val (.int p0), .val (.int p1), .val (.int p2), .val (.int p3), .val (.int p4), .val (.int p5), .val (.int (Int32.ofNat nn)), .val (.int (Int32.ofNat na)), .val (.int (p0.toInt8.toInt32)), .val (.int (p1.toInt8.toInt32)), .val (.int (p2.toInt8.toInt32)), .val (.int (p3.toInt8.toInt32)), .val (.ref b1), .val (.ref bb), .val (.int (p5.toInt8.toInt32)), .val (.ref tx), .val (.int x16), .val (.int x17), .val (.int (1 : Int32))] [(.int (1 : Int32))]))
    refine Goes.go (fun _ kst => XS.istore X10.here hx rfl (hb hby at_580) rfl (l' := #[.val (.int p0), .val (.int p1), .val (.int p2), .val (.int p3), .val (.int p4), .val (.int p5), .val (.int (Int32.ofNat nn)), .val (.int (Int32.ofNat na)), .val (.int (p0.toInt8.toInt32)), .val (.int (p1.toInt8.toInt32)), .val (.int (p2.toInt8.toInt32)), .val (.int (p3.toInt8.toInt32)), .val (.ref b1), .val (.ref bb), .val (.int (p5.toInt8.toInt32)), .val (.ref tx), .val (.int x16), .val (.int x17), .val (.int (1 : Int32))]) rfl kst) ?_
    show Goes p e below s _ _ _ (T10.setTop (mkF m 582 #[.val (.int p0), .val (.int p1), .val (.int p2), .val (.int p3), .val (.int p4), .val (.int p5), .val (.int (Int32.ofNat nn)), .val (.int (Int32.ofNat na)), .val (.int (p0.toInt8.toInt32)), .val (.int (p1.toInt8.toInt32)), .val (.int (p2.toInt8.toInt32)), .val (.int (p3.toInt8.toInt32)), .val (.ref b1), .val (.ref bb), .val (.int (p5.toInt8.toInt32)), .val (.ref tx), .val (.int x16), .val (.int x17), .val (.int (1 : Int32))] []))
    refine Goes.go (fun _ kst => XS.iload X10.here hx rfl (hb hby at_582) rfl  kst) ?_
    show Goes p e below s _ _ _ (T10.setTop (mkF m 584 #[.val (.int p0), .val (.int p1), .val (.int p2), .val (.int p3), .val (.int p4), .val (.int p5), .val (.int (Int32.ofNat nn)), .val (.int (Int32.ofNat na)), .val (.int (p0.toInt8.toInt32)), .val (.int (p1.toInt8.toInt32)), .val (.int (p2.toInt8.toInt32)), .val (.int (p3.toInt8.toInt32)), .val (.ref b1), .val (.ref bb), .val (.int (p5.toInt8.toInt32)), .val (.ref tx), .val (.int x16), .val (.int x17), .val (.int (1 : Int32))] [(.int (1 : Int32))]))
    refine Goes.go (fun _ kst => XS.aload X10.here hx rfl (hb hby at_584) rfl rfl  kst) ?_
    show Goes p e below s _ _ _ (T10.setTop (mkF m 586 #[.val (.int p0), .val (.int p1), .val (.int p2), .val (.int p3), .val (.int p4), .val (.int p5), .val (.int (Int32.ofNat nn)), .val (.int (Int32.ofNat na)), .val (.int (p0.toInt8.toInt32)), .val (.int (p1.toInt8.toInt32)), .val (.int (p2.toInt8.toInt32)), .val (.int (p3.toInt8.toInt32)), .val (.ref b1), .val (.ref bb), .val (.int (p5.toInt8.toInt32)), .val (.ref tx), .val (.int x16), .val (.int x17), .val (.int (1 : Int32))] [(.ref tx), (.int (1 : Int32))]))
    refine Goes.go (fun _ kst => XS.bipush X10.here hx rfl (hb hby at_586) kst) ?_
    show Goes p e below s _ _ _ (T10.setTop (mkF m 588 #[.val (.int p0), .val (.int p1), .val (.int p2), .val (.int p3), .val (.int p4), .val (.int p5), .val (.int (Int32.ofNat nn)), .val (.int (Int32.ofNat na)), .val (.int (p0.toInt8.toInt32)), .val (.int (p1.toInt8.toInt32)), .val (.int (p2.toInt8.toInt32)), .val (.int (p3.toInt8.toInt32)), .val (.ref b1), .val (.ref bb), .val (.int (p5.toInt8.toInt32)), .val (.ref tx), .val (.int x16), .val (.int x17), .val (.int (1 : Int32))] [(.int (14 : Int32)), (.ref tx), (.int (1 : Int32))]))
    refine Goes.go (fun _ kst => XS.iload X10.here hx rfl (hb hby at_588) rfl  kst) ?_
    show Goes p e below s _ _ _ (T10.setTop (mkF m 590 #[.val (.int p0), .val (.int p1), .val (.int p2), .val (.int p3), .val (.int p4), .val (.int p5), .val (.int (Int32.ofNat nn)), .val (.int (Int32.ofNat na)), .val (.int (p0.toInt8.toInt32)), .val (.int (p1.toInt8.toInt32)), .val (.int (p2.toInt8.toInt32)), .val (.int (p3.toInt8.toInt32)), .val (.ref b1), .val (.ref bb), .val (.int (p5.toInt8.toInt32)), .val (.ref tx), .val (.int x16), .val (.int x17), .val (.int (1 : Int32))] [(.int (Int32.ofNat na)), (.int (14 : Int32)), (.ref tx), (.int (1 : Int32))]))
    refine Goes.go (fun _ kst => XS.iload X10.here hx rfl (hb hby at_590) rfl  kst) ?_
    show Goes p e below s _ _ _ (T10.setTop (mkF m 592 #[.val (.int p0), .val (.int p1), .val (.int p2), .val (.int p3), .val (.int p4), .val (.int p5), .val (.int (Int32.ofNat nn)), .val (.int (Int32.ofNat na)), .val (.int (p0.toInt8.toInt32)), .val (.int (p1.toInt8.toInt32)), .val (.int (p2.toInt8.toInt32)), .val (.int (p3.toInt8.toInt32)), .val (.ref b1), .val (.ref bb), .val (.int (p5.toInt8.toInt32)), .val (.ref tx), .val (.int x16), .val (.int x17), .val (.int (1 : Int32))] [(.int (Int32.ofNat nn)), (.int (Int32.ofNat na)), (.int (14 : Int32)), (.ref tx), (.int (1 : Int32))]))
    refine Goes.go (fun _ kst => XS.aload X10.here hx rfl (hb hby at_592) rfl rfl  kst) ?_
    show Goes p e below s _ _ _ (T10.setTop (mkF m 594 #[.val (.int p0), .val (.int p1), .val (.int p2), .val (.int p3), .val (.int p4), .val (.int p5), .val (.int (Int32.ofNat nn)), .val (.int (Int32.ofNat na)), .val (.int (p0.toInt8.toInt32)), .val (.int (p1.toInt8.toInt32)), .val (.int (p2.toInt8.toInt32)), .val (.int (p3.toInt8.toInt32)), .val (.ref b1), .val (.ref bb), .val (.int (p5.toInt8.toInt32)), .val (.ref tx), .val (.int x16), .val (.int x17), .val (.int (1 : Int32))] [(.ref b1), (.int (Int32.ofNat nn)), (.int (Int32.ofNat na)), (.int (14 : Int32)), (.ref tx), (.int (1 : Int32))]))
    refine Goes.go (fun _ kst => XS.iload X10.here hx rfl (hb hby at_594) rfl  kst) ?_
    show Goes p e below s _ _ _ (T10.setTop (mkF m 596 #[.val (.int p0), .val (.int p1), .val (.int p2), .val (.int p3), .val (.int p4), .val (.int p5), .val (.int (Int32.ofNat nn)), .val (.int (Int32.ofNat na)), .val (.int (p0.toInt8.toInt32)), .val (.int (p1.toInt8.toInt32)), .val (.int (p2.toInt8.toInt32)), .val (.int (p3.toInt8.toInt32)), .val (.ref b1), .val (.ref bb), .val (.int (p5.toInt8.toInt32)), .val (.ref tx), .val (.int x16), .val (.int x17), .val (.int (1 : Int32))] [(.int (p5.toInt8.toInt32)), (.ref b1), (.int (Int32.ofNat nn)), (.int (Int32.ofNat na)), (.int (14 : Int32)), (.ref tx), (.int (1 : Int32))]))
    obtain ⟨_, _, ⟨T11, L11, k11, n11⟩, -, X11, ⟨Lc11, hQ11, l11, y11, z11⟩, st11⟩ := Jvm.LawKit.callS X10 hx (y := (⟨"org/cardprobe/HexFormatPinLaw", "cell", "([BIII[BB)Z"⟩ : MethodName)) hown (mvT hZ (hw _ (List.mem_of_getElem? (i := 5) rfl))) (mvT hZ (hw _ (List.mem_of_getElem? (i := 6) rfl))) (mvT hZ (hw _ (List.mem_of_getElem? (i := 7) rfl))) (mvT hZ (hw _ (List.mem_of_getElem? (i := 8) rfl))) (by decide) (backOf (W := 1) (rm2 l Z a0 hw [] tx b1 (p5.toInt8.toInt32) 15 (own_fmt vv nn 0 na tt) 4 vv 14 na nn hJ n0 ZJ AT15 AV12 (by decide) hna hnn rfl rfl) hZ (hw _ (List.mem_of_getElem? (i := 8) rfl)) (hw _ (List.mem_of_getElem? (i := 7) rfl)) (by decide) (by decide)) (g := (mkF m 596 #[.val (.int p0), .val (.int p1), .val (.int p2), .val (.int p3), .val (.int p4), .val (.int p5), .val (.int (Int32.ofNat nn)), .val (.int (Int32.ofNat na)), .val (.int (p0.toInt8.toInt32)), .val (.int (p1.toInt8.toInt32)), .val (.int (p2.toInt8.toInt32)), .val (.int (p3.toInt8.toInt32)), .val (.ref b1), .val (.ref bb), .val (.int (p5.toInt8.toInt32)), .val (.ref tx), .val (.int x16), .val (.int x17), .val (.int (1 : Int32))] [(.int (p5.toInt8.toInt32)), (.ref b1), (.int (Int32.ofNat nn)), (.int (Int32.ofNat na)), (.int (14 : Int32)), (.ref tx), (.int (1 : Int32))])) rfl (by rw [hml]; rfl) (argsL := [(.ref tx), (.int (14 : Int32)), (.int (Int32.ofNat na)), (.int (Int32.ofNat nn)), (.ref b1), (.int (p5.toInt8.toInt32))]) (rest := [(.int (1 : Int32))]) (lenOf pd_1 rfl) rfl (by show 2 * 0 + _ ≤ _; exact Nat.le_of_eq rfl) (hb hby at_596) (fun _ _ => ⟨rfl, e10, (by decide : 3 + 0 ≤ _), (by decide : 23 + 0 ≤ _)⟩)
    dsimp only [Pt.U, Pt.locs, Pt.cells, Pt.slots] at X11 l11 y11 z11 st11 hQ11
    subst l11 y11 z11
    obtain ⟨rfl, N11q, e11⟩ := hQ11
    have N11 := Fr.app N10 N11q
    refine Goes.go st11 ?_
    rw [show (f2 tx b1 (p5.toInt8.toInt32) 15 (own_fmt vv nn 0 na tt) 4 vv 14 na nn) = (1 : Int32) from own_c14 hna hnn hvb ht]
    show Goes p e below s _ _ _ (T11.setTop (mkF m 599 #[.val (.int p0), .val (.int p1), .val (.int p2), .val (.int p3), .val (.int p4), .val (.int p5), .val (.int (Int32.ofNat nn)), .val (.int (Int32.ofNat na)), .val (.int (p0.toInt8.toInt32)), .val (.int (p1.toInt8.toInt32)), .val (.int (p2.toInt8.toInt32)), .val (.int (p3.toInt8.toInt32)), .val (.ref b1), .val (.ref bb), .val (.int (p5.toInt8.toInt32)), .val (.ref tx), .val (.int x16), .val (.int x17), .val (.int (1 : Int32))] [(.int (1 : Int32)), (.int (1 : Int32))]))
    refine Goes.go (fun _ kst => XS.iand X11.here hx rfl (hb hby at_599) rfl kst) ?_
    rw [show ((1 : Int32) &&& (1 : Int32)) = (1 : Int32) from by decide]
    show Goes p e below s _ _ _ (T11.setTop (mkF m 600 #[.val (.int p0), .val (.int p1), .val (.int p2), .val (.int p3), .val (.int p4), .val (.int p5), .val (.int (Int32.ofNat nn)), .val (.int (Int32.ofNat na)), .val (.int (p0.toInt8.toInt32)), .val (.int (p1.toInt8.toInt32)), .val (.int (p2.toInt8.toInt32)), .val (.int (p3.toInt8.toInt32)), .val (.ref b1), .val (.ref bb), .val (.int (p5.toInt8.toInt32)), .val (.ref tx), .val (.int x16), .val (.int x17), .val (.int (1 : Int32))] [(.int (1 : Int32))]))
    refine Goes.go (fun _ kst => XS.istore X11.here hx rfl (hb hby at_600) rfl (l' := #[.val (.int p0), .val (.int p1), .val (.int p2), .val (.int p3), .val (.int p4), .val (.int p5), .val (.int (Int32.ofNat nn)), .val (.int (Int32.ofNat na)), .val (.int (p0.toInt8.toInt32)), .val (.int (p1.toInt8.toInt32)), .val (.int (p2.toInt8.toInt32)), .val (.int (p3.toInt8.toInt32)), .val (.ref b1), .val (.ref bb), .val (.int (p5.toInt8.toInt32)), .val (.ref tx), .val (.int x16), .val (.int x17), .val (.int (1 : Int32))]) rfl kst) ?_
    show Goes p e below s _ _ _ (T11.setTop (mkF m 602 #[.val (.int p0), .val (.int p1), .val (.int p2), .val (.int p3), .val (.int p4), .val (.int p5), .val (.int (Int32.ofNat nn)), .val (.int (Int32.ofNat na)), .val (.int (p0.toInt8.toInt32)), .val (.int (p1.toInt8.toInt32)), .val (.int (p2.toInt8.toInt32)), .val (.int (p3.toInt8.toInt32)), .val (.ref b1), .val (.ref bb), .val (.int (p5.toInt8.toInt32)), .val (.ref tx), .val (.int x16), .val (.int x17), .val (.int (1 : Int32))] []))
    refine Goes.go (fun _ kst => XS.iload X11.here hx rfl (hb hby at_602) rfl  kst) ?_
    show Goes p e below s _ _ _ (T11.setTop (mkF m 604 #[.val (.int p0), .val (.int p1), .val (.int p2), .val (.int p3), .val (.int p4), .val (.int p5), .val (.int (Int32.ofNat nn)), .val (.int (Int32.ofNat na)), .val (.int (p0.toInt8.toInt32)), .val (.int (p1.toInt8.toInt32)), .val (.int (p2.toInt8.toInt32)), .val (.int (p3.toInt8.toInt32)), .val (.ref b1), .val (.ref bb), .val (.int (p5.toInt8.toInt32)), .val (.ref tx), .val (.int x16), .val (.int x17), .val (.int (1 : Int32))] [(.int (1 : Int32))]))
    refine Goes.retN .boolean X11 hx hlk Bd.returns (by simp) (hb hby at_604) ?_ (by decide) (by decide)
    exact ⟨rfl, N11⟩
  have J403 : ∀ (bb tx : Addr) (x16 x17 : Int32) (tt : Nat → Int32) (ht : ∀ i, i < 15 → tt i = nar .byte (p5.toInt8.toInt32)) {TJ : State} {lj : List Loc} {hJ : Heap} (XJ : Stand p l e room_1 s m #[(.int p0), (.int p1), (.int p2), (.int p3), (.int p4), (.int p5)] below meth c TJ lj 3 23) (eJ : TJ.heap = hJ) (NJ : Fr n0 lj) (ZJ : n0 ≤ hJ.size) (KJ : Keep h0 hJ []) (AT15 : IA Z hJ tx .byte 15 (own_fmt vv nn 0 na tt)) (AV12 : IA Z hJ b1 .byte 4 vv), Goes p e below s (Q0 n0) room_1.cells room_1.slots (TJ.setTop (mkF m 403 #[.val (.int p0), .val (.int p1), .val (.int p2), .val (.int p3), .val (.int p4), .val (.int p5), .val (.int (Int32.ofNat nn)), .val (.int (Int32.ofNat na)), .val (.int (p0.toInt8.toInt32)), .val (.int (p1.toInt8.toInt32)), .val (.int (p2.toInt8.toInt32)), .val (.int (p3.toInt8.toInt32)), .val (.ref b1), .val (.ref bb), .val (.int (p5.toInt8.toInt32)), .val (.ref tx), .val (.int x16), .val (.int x17), .val (.int (1 : Int32))] [])) := by
    intro bb tx x16 x17 tt ht TJ lj hJ XJ eJ NJ ZJ KJ AT15 AV12
    show Goes p e below s _ _ _ (TJ.setTop (mkF m 403 #[.val (.int p0), .val (.int p1), .val (.int p2), .val (.int p3), .val (.int p4), .val (.int p5), .val (.int (Int32.ofNat nn)), .val (.int (Int32.ofNat na)), .val (.int (p0.toInt8.toInt32)), .val (.int (p1.toInt8.toInt32)), .val (.int (p2.toInt8.toInt32)), .val (.int (p3.toInt8.toInt32)), .val (.ref b1), .val (.ref bb), .val (.int (p5.toInt8.toInt32)), .val (.ref tx), .val (.int x16), .val (.int x17), .val (.int (1 : Int32))] []))
    refine Goes.go (fun _ kst => XS.iload XJ.here hx rfl (hb hby at_403) rfl  kst) ?_
    show Goes p e below s _ _ _ (TJ.setTop (mkF m 405 #[.val (.int p0), .val (.int p1), .val (.int p2), .val (.int p3), .val (.int p4), .val (.int p5), .val (.int (Int32.ofNat nn)), .val (.int (Int32.ofNat na)), .val (.int (p0.toInt8.toInt32)), .val (.int (p1.toInt8.toInt32)), .val (.int (p2.toInt8.toInt32)), .val (.int (p3.toInt8.toInt32)), .val (.ref b1), .val (.ref bb), .val (.int (p5.toInt8.toInt32)), .val (.ref tx), .val (.int x16), .val (.int x17), .val (.int (1 : Int32))] [(.int (1 : Int32))]))
    refine Goes.go (fun _ kst => XS.aload XJ.here hx rfl (hb hby at_405) rfl rfl  kst) ?_
    show Goes p e below s _ _ _ (TJ.setTop (mkF m 407 #[.val (.int p0), .val (.int p1), .val (.int p2), .val (.int p3), .val (.int p4), .val (.int p5), .val (.int (Int32.ofNat nn)), .val (.int (Int32.ofNat na)), .val (.int (p0.toInt8.toInt32)), .val (.int (p1.toInt8.toInt32)), .val (.int (p2.toInt8.toInt32)), .val (.int (p3.toInt8.toInt32)), .val (.ref b1), .val (.ref bb), .val (.int (p5.toInt8.toInt32)), .val (.ref tx), .val (.int x16), .val (.int x17), .val (.int (1 : Int32))] [(.ref tx), (.int (1 : Int32))]))
    refine Goes.go (fun _ kst => XS.iconst XJ.here hx rfl (hb hby at_407) kst) ?_
    show Goes p e below s _ _ _ (TJ.setTop (mkF m 408 #[.val (.int p0), .val (.int p1), .val (.int p2), .val (.int p3), .val (.int p4), .val (.int p5), .val (.int (Int32.ofNat nn)), .val (.int (Int32.ofNat na)), .val (.int (p0.toInt8.toInt32)), .val (.int (p1.toInt8.toInt32)), .val (.int (p2.toInt8.toInt32)), .val (.int (p3.toInt8.toInt32)), .val (.ref b1), .val (.ref bb), .val (.int (p5.toInt8.toInt32)), .val (.ref tx), .val (.int x16), .val (.int x17), .val (.int (1 : Int32))] [(.int (5 : Int32)), (.ref tx), (.int (1 : Int32))]))
    refine Goes.go (fun _ kst => XS.iload XJ.here hx rfl (hb hby at_408) rfl  kst) ?_
    show Goes p e below s _ _ _ (TJ.setTop (mkF m 410 #[.val (.int p0), .val (.int p1), .val (.int p2), .val (.int p3), .val (.int p4), .val (.int p5), .val (.int (Int32.ofNat nn)), .val (.int (Int32.ofNat na)), .val (.int (p0.toInt8.toInt32)), .val (.int (p1.toInt8.toInt32)), .val (.int (p2.toInt8.toInt32)), .val (.int (p3.toInt8.toInt32)), .val (.ref b1), .val (.ref bb), .val (.int (p5.toInt8.toInt32)), .val (.ref tx), .val (.int x16), .val (.int x17), .val (.int (1 : Int32))] [(.int (Int32.ofNat na)), (.int (5 : Int32)), (.ref tx), (.int (1 : Int32))]))
    refine Goes.go (fun _ kst => XS.iload XJ.here hx rfl (hb hby at_410) rfl  kst) ?_
    show Goes p e below s _ _ _ (TJ.setTop (mkF m 412 #[.val (.int p0), .val (.int p1), .val (.int p2), .val (.int p3), .val (.int p4), .val (.int p5), .val (.int (Int32.ofNat nn)), .val (.int (Int32.ofNat na)), .val (.int (p0.toInt8.toInt32)), .val (.int (p1.toInt8.toInt32)), .val (.int (p2.toInt8.toInt32)), .val (.int (p3.toInt8.toInt32)), .val (.ref b1), .val (.ref bb), .val (.int (p5.toInt8.toInt32)), .val (.ref tx), .val (.int x16), .val (.int x17), .val (.int (1 : Int32))] [(.int (Int32.ofNat nn)), (.int (Int32.ofNat na)), (.int (5 : Int32)), (.ref tx), (.int (1 : Int32))]))
    refine Goes.go (fun _ kst => XS.aload XJ.here hx rfl (hb hby at_412) rfl rfl  kst) ?_
    show Goes p e below s _ _ _ (TJ.setTop (mkF m 414 #[.val (.int p0), .val (.int p1), .val (.int p2), .val (.int p3), .val (.int p4), .val (.int p5), .val (.int (Int32.ofNat nn)), .val (.int (Int32.ofNat na)), .val (.int (p0.toInt8.toInt32)), .val (.int (p1.toInt8.toInt32)), .val (.int (p2.toInt8.toInt32)), .val (.int (p3.toInt8.toInt32)), .val (.ref b1), .val (.ref bb), .val (.int (p5.toInt8.toInt32)), .val (.ref tx), .val (.int x16), .val (.int x17), .val (.int (1 : Int32))] [(.ref b1), (.int (Int32.ofNat nn)), (.int (Int32.ofNat na)), (.int (5 : Int32)), (.ref tx), (.int (1 : Int32))]))
    refine Goes.go (fun _ kst => XS.iload XJ.here hx rfl (hb hby at_414) rfl  kst) ?_
    show Goes p e below s _ _ _ (TJ.setTop (mkF m 416 #[.val (.int p0), .val (.int p1), .val (.int p2), .val (.int p3), .val (.int p4), .val (.int p5), .val (.int (Int32.ofNat nn)), .val (.int (Int32.ofNat na)), .val (.int (p0.toInt8.toInt32)), .val (.int (p1.toInt8.toInt32)), .val (.int (p2.toInt8.toInt32)), .val (.int (p3.toInt8.toInt32)), .val (.ref b1), .val (.ref bb), .val (.int (p5.toInt8.toInt32)), .val (.ref tx), .val (.int x16), .val (.int x17), .val (.int (1 : Int32))] [(.int (p5.toInt8.toInt32)), (.ref b1), (.int (Int32.ofNat nn)), (.int (Int32.ofNat na)), (.int (5 : Int32)), (.ref tx), (.int (1 : Int32))]))
    obtain ⟨_, _, ⟨T12, L12, k12, n12⟩, -, X12, ⟨Lc12, hQ12, l12, y12, z12⟩, st12⟩ := Jvm.LawKit.callS XJ hx (y := (⟨"org/cardprobe/HexFormatPinLaw", "cell", "([BIII[BB)Z"⟩ : MethodName)) hown (mvT hZ (hw _ (List.mem_of_getElem? (i := 5) rfl))) (mvT hZ (hw _ (List.mem_of_getElem? (i := 6) rfl))) (mvT hZ (hw _ (List.mem_of_getElem? (i := 7) rfl))) (mvT hZ (hw _ (List.mem_of_getElem? (i := 8) rfl))) (by decide) (backOf (W := 1) (rm2 l Z a0 hw [] tx b1 (p5.toInt8.toInt32) 15 (own_fmt vv nn 0 na tt) 4 vv 5 na nn hJ n0 ZJ AT15 AV12 (by decide) hna hnn rfl rfl) hZ (hw _ (List.mem_of_getElem? (i := 8) rfl)) (hw _ (List.mem_of_getElem? (i := 7) rfl)) (by decide) (by decide)) (g := (mkF m 416 #[.val (.int p0), .val (.int p1), .val (.int p2), .val (.int p3), .val (.int p4), .val (.int p5), .val (.int (Int32.ofNat nn)), .val (.int (Int32.ofNat na)), .val (.int (p0.toInt8.toInt32)), .val (.int (p1.toInt8.toInt32)), .val (.int (p2.toInt8.toInt32)), .val (.int (p3.toInt8.toInt32)), .val (.ref b1), .val (.ref bb), .val (.int (p5.toInt8.toInt32)), .val (.ref tx), .val (.int x16), .val (.int x17), .val (.int (1 : Int32))] [(.int (p5.toInt8.toInt32)), (.ref b1), (.int (Int32.ofNat nn)), (.int (Int32.ofNat na)), (.int (5 : Int32)), (.ref tx), (.int (1 : Int32))])) rfl (by rw [hml]; rfl) (argsL := [(.ref tx), (.int (5 : Int32)), (.int (Int32.ofNat na)), (.int (Int32.ofNat nn)), (.ref b1), (.int (p5.toInt8.toInt32))]) (rest := [(.int (1 : Int32))]) (lenOf pd_1 rfl) rfl (by show 2 * 0 + _ ≤ _; exact Nat.le_of_eq rfl) (hb hby at_416) (fun _ _ => ⟨rfl, eJ, (by decide : 3 + 0 ≤ _), (by decide : 23 + 0 ≤ _)⟩)
    dsimp only [Pt.U, Pt.locs, Pt.cells, Pt.slots] at X12 l12 y12 z12 st12 hQ12
    subst l12 y12 z12
    obtain ⟨rfl, N12q, e12⟩ := hQ12
    have N12 := Fr.app NJ N12q
    refine Goes.go st12 ?_
    rw [show (f2 tx b1 (p5.toInt8.toInt32) 15 (own_fmt vv nn 0 na tt) 4 vv 5 na nn) = (1 : Int32) from own_c5 hna hnn hvb ht]
    show Goes p e below s _ _ _ (T12.setTop (mkF m 419 #[.val (.int p0), .val (.int p1), .val (.int p2), .val (.int p3), .val (.int p4), .val (.int p5), .val (.int (Int32.ofNat nn)), .val (.int (Int32.ofNat na)), .val (.int (p0.toInt8.toInt32)), .val (.int (p1.toInt8.toInt32)), .val (.int (p2.toInt8.toInt32)), .val (.int (p3.toInt8.toInt32)), .val (.ref b1), .val (.ref bb), .val (.int (p5.toInt8.toInt32)), .val (.ref tx), .val (.int x16), .val (.int x17), .val (.int (1 : Int32))] [(.int (1 : Int32)), (.int (1 : Int32))]))
    refine Goes.go (fun _ kst => XS.iand X12.here hx rfl (hb hby at_419) rfl kst) ?_
    rw [show ((1 : Int32) &&& (1 : Int32)) = (1 : Int32) from by decide]
    show Goes p e below s _ _ _ (T12.setTop (mkF m 420 #[.val (.int p0), .val (.int p1), .val (.int p2), .val (.int p3), .val (.int p4), .val (.int p5), .val (.int (Int32.ofNat nn)), .val (.int (Int32.ofNat na)), .val (.int (p0.toInt8.toInt32)), .val (.int (p1.toInt8.toInt32)), .val (.int (p2.toInt8.toInt32)), .val (.int (p3.toInt8.toInt32)), .val (.ref b1), .val (.ref bb), .val (.int (p5.toInt8.toInt32)), .val (.ref tx), .val (.int x16), .val (.int x17), .val (.int (1 : Int32))] [(.int (1 : Int32))]))
    refine Goes.go (fun _ kst => XS.istore X12.here hx rfl (hb hby at_420) rfl (l' := #[.val (.int p0), .val (.int p1), .val (.int p2), .val (.int p3), .val (.int p4), .val (.int p5), .val (.int (Int32.ofNat nn)), .val (.int (Int32.ofNat na)), .val (.int (p0.toInt8.toInt32)), .val (.int (p1.toInt8.toInt32)), .val (.int (p2.toInt8.toInt32)), .val (.int (p3.toInt8.toInt32)), .val (.ref b1), .val (.ref bb), .val (.int (p5.toInt8.toInt32)), .val (.ref tx), .val (.int x16), .val (.int x17), .val (.int (1 : Int32))]) rfl kst) ?_
    show Goes p e below s _ _ _ (T12.setTop (mkF m 422 #[.val (.int p0), .val (.int p1), .val (.int p2), .val (.int p3), .val (.int p4), .val (.int p5), .val (.int (Int32.ofNat nn)), .val (.int (Int32.ofNat na)), .val (.int (p0.toInt8.toInt32)), .val (.int (p1.toInt8.toInt32)), .val (.int (p2.toInt8.toInt32)), .val (.int (p3.toInt8.toInt32)), .val (.ref b1), .val (.ref bb), .val (.int (p5.toInt8.toInt32)), .val (.ref tx), .val (.int x16), .val (.int x17), .val (.int (1 : Int32))] []))
    refine Goes.go (fun _ kst => XS.iload X12.here hx rfl (hb hby at_422) rfl  kst) ?_
    show Goes p e below s _ _ _ (T12.setTop (mkF m 424 #[.val (.int p0), .val (.int p1), .val (.int p2), .val (.int p3), .val (.int p4), .val (.int p5), .val (.int (Int32.ofNat nn)), .val (.int (Int32.ofNat na)), .val (.int (p0.toInt8.toInt32)), .val (.int (p1.toInt8.toInt32)), .val (.int (p2.toInt8.toInt32)), .val (.int (p3.toInt8.toInt32)), .val (.ref b1), .val (.ref bb), .val (.int (p5.toInt8.toInt32)), .val (.ref tx), .val (.int x16), .val (.int x17), .val (.int (1 : Int32))] [(.int (1 : Int32))]))
    refine Goes.go (fun _ kst => XS.aload X12.here hx rfl (hb hby at_424) rfl rfl  kst) ?_
    show Goes p e below s _ _ _ (T12.setTop (mkF m 426 #[.val (.int p0), .val (.int p1), .val (.int p2), .val (.int p3), .val (.int p4), .val (.int p5), .val (.int (Int32.ofNat nn)), .val (.int (Int32.ofNat na)), .val (.int (p0.toInt8.toInt32)), .val (.int (p1.toInt8.toInt32)), .val (.int (p2.toInt8.toInt32)), .val (.int (p3.toInt8.toInt32)), .val (.ref b1), .val (.ref bb), .val (.int (p5.toInt8.toInt32)), .val (.ref tx), .val (.int x16), .val (.int x17), .val (.int (1 : Int32))] [(.ref tx), (.int (1 : Int32))]))
    refine Goes.go (fun _ kst => XS.bipush X12.here hx rfl (hb hby at_426) kst) ?_
    show Goes p e below s _ _ _ (T12.setTop (mkF m 428 #[.val (.int p0), .val (.int p1), .val (.int p2), .val (.int p3), .val (.int p4), .val (.int p5), .val (.int (Int32.ofNat nn)), .val (.int (Int32.ofNat na)), .val (.int (p0.toInt8.toInt32)), .val (.int (p1.toInt8.toInt32)), .val (.int (p2.toInt8.toInt32)), .val (.int (p3.toInt8.toInt32)), .val (.ref b1), .val (.ref bb), .val (.int (p5.toInt8.toInt32)), .val (.ref tx), .val (.int x16), .val (.int x17), .val (.int (1 : Int32))] [(.int (6 : Int32)), (.ref tx), (.int (1 : Int32))]))
    refine Goes.go (fun _ kst => XS.iload X12.here hx rfl (hb hby at_428) rfl  kst) ?_
    show Goes p e below s _ _ _ (T12.setTop (mkF m 430 #[.val (.int p0), .val (.int p1), .val (.int p2), .val (.int p3), .val (.int p4), .val (.int p5), .val (.int (Int32.ofNat nn)), .val (.int (Int32.ofNat na)), .val (.int (p0.toInt8.toInt32)), .val (.int (p1.toInt8.toInt32)), .val (.int (p2.toInt8.toInt32)), .val (.int (p3.toInt8.toInt32)), .val (.ref b1), .val (.ref bb), .val (.int (p5.toInt8.toInt32)), .val (.ref tx), .val (.int x16), .val (.int x17), .val (.int (1 : Int32))] [(.int (Int32.ofNat na)), (.int (6 : Int32)), (.ref tx), (.int (1 : Int32))]))
    refine Goes.go (fun _ kst => XS.iload X12.here hx rfl (hb hby at_430) rfl  kst) ?_
    show Goes p e below s _ _ _ (T12.setTop (mkF m 432 #[.val (.int p0), .val (.int p1), .val (.int p2), .val (.int p3), .val (.int p4), .val (.int p5), .val (.int (Int32.ofNat nn)), .val (.int (Int32.ofNat na)), .val (.int (p0.toInt8.toInt32)), .val (.int (p1.toInt8.toInt32)), .val (.int (p2.toInt8.toInt32)), .val (.int (p3.toInt8.toInt32)), .val (.ref b1), .val (.ref bb), .val (.int (p5.toInt8.toInt32)), .val (.ref tx), .val (.int x16), .val (.int x17), .val (.int (1 : Int32))] [(.int (Int32.ofNat nn)), (.int (Int32.ofNat na)), (.int (6 : Int32)), (.ref tx), (.int (1 : Int32))]))
    refine Goes.go (fun _ kst => XS.aload X12.here hx rfl (hb hby at_432) rfl rfl  kst) ?_
    show Goes p e below s _ _ _ (T12.setTop (mkF m 434 #[.val (.int p0), .val (.int p1), .val (.int p2), .val (.int p3), .val (.int p4), .val (.int p5), .val (.int (Int32.ofNat nn)), .val (.int (Int32.ofNat na)), .val (.int (p0.toInt8.toInt32)), .val (.int (p1.toInt8.toInt32)), .val (.int (p2.toInt8.toInt32)), .val (.int (p3.toInt8.toInt32)), .val (.ref b1), .val (.ref bb), .val (.int (p5.toInt8.toInt32)), .val (.ref tx), .val (.int x16), .val (.int x17), .val (.int (1 : Int32))] [(.ref b1), (.int (Int32.ofNat nn)), (.int (Int32.ofNat na)), (.int (6 : Int32)), (.ref tx), (.int (1 : Int32))]))
    refine Goes.go (fun _ kst => XS.iload X12.here hx rfl (hb hby at_434) rfl  kst) ?_
    show Goes p e below s _ _ _ (T12.setTop (mkF m 436 #[.val (.int p0), .val (.int p1), .val (.int p2), .val (.int p3), .val (.int p4), .val (.int p5), .val (.int (Int32.ofNat nn)), .val (.int (Int32.ofNat na)), .val (.int (p0.toInt8.toInt32)), .val (.int (p1.toInt8.toInt32)), .val (.int (p2.toInt8.toInt32)), .val (.int (p3.toInt8.toInt32)), .val (.ref b1), .val (.ref bb), .val (.int (p5.toInt8.toInt32)), .val (.ref tx), .val (.int x16), .val (.int x17), .val (.int (1 : Int32))] [(.int (p5.toInt8.toInt32)), (.ref b1), (.int (Int32.ofNat nn)), (.int (Int32.ofNat na)), (.int (6 : Int32)), (.ref tx), (.int (1 : Int32))]))
    obtain ⟨_, _, ⟨T13, L13, k13, n13⟩, -, X13, ⟨Lc13, hQ13, l13, y13, z13⟩, st13⟩ := Jvm.LawKit.callS X12 hx (y := (⟨"org/cardprobe/HexFormatPinLaw", "cell", "([BIII[BB)Z"⟩ : MethodName)) hown (mvT hZ (hw _ (List.mem_of_getElem? (i := 5) rfl))) (mvT hZ (hw _ (List.mem_of_getElem? (i := 6) rfl))) (mvT hZ (hw _ (List.mem_of_getElem? (i := 7) rfl))) (mvT hZ (hw _ (List.mem_of_getElem? (i := 8) rfl))) (by decide) (backOf (W := 1) (rm2 l Z a0 hw [] tx b1 (p5.toInt8.toInt32) 15 (own_fmt vv nn 0 na tt) 4 vv 6 na nn hJ n0 ZJ AT15 AV12 (by decide) hna hnn rfl rfl) hZ (hw _ (List.mem_of_getElem? (i := 8) rfl)) (hw _ (List.mem_of_getElem? (i := 7) rfl)) (by decide) (by decide)) (g := (mkF m 436 #[.val (.int p0), .val (.int p1), .val (.int p2), .val (.int p3), .val (.int p4), .val (.int p5), .val (.int (Int32.ofNat nn)), .val (.int (Int32.ofNat na)), .val (.int (p0.toInt8.toInt32)), .val (.int (p1.toInt8.toInt32)), .val (.int (p2.toInt8.toInt32)), .val (.int (p3.toInt8.toInt32)), .val (.ref b1), .val (.ref bb), .val (.int (p5.toInt8.toInt32)), .val (.ref tx), .val (.int x16), .val (.int x17), .val (.int (1 : Int32))] [(.int (p5.toInt8.toInt32)), (.ref b1), (.int (Int32.ofNat nn)), (.int (Int32.ofNat na)), (.int (6 : Int32)), (.ref tx), (.int (1 : Int32))])) rfl (by rw [hml]; rfl) (argsL := [(.ref tx), (.int (6 : Int32)), (.int (Int32.ofNat na)), (.int (Int32.ofNat nn)), (.ref b1), (.int (p5.toInt8.toInt32))]) (rest := [(.int (1 : Int32))]) (lenOf pd_1 rfl) rfl (by show 2 * 0 + _ ≤ _; exact Nat.le_of_eq rfl) (hb hby at_436) (fun _ _ => ⟨rfl, e12, (by decide : 3 + 0 ≤ _), (by decide : 23 + 0 ≤ _)⟩)
    dsimp only [Pt.U, Pt.locs, Pt.cells, Pt.slots] at X13 l13 y13 z13 st13 hQ13
    subst l13 y13 z13
    obtain ⟨rfl, N13q, e13⟩ := hQ13
    have N13 := Fr.app N12 N13q
    refine Goes.go st13 ?_
    rw [show (f2 tx b1 (p5.toInt8.toInt32) 15 (own_fmt vv nn 0 na tt) 4 vv 6 na nn) = (1 : Int32) from own_c6 hna hnn hvb ht]
    show Goes p e below s _ _ _ (T13.setTop (mkF m 439 #[.val (.int p0), .val (.int p1), .val (.int p2), .val (.int p3), .val (.int p4), .val (.int p5), .val (.int (Int32.ofNat nn)), .val (.int (Int32.ofNat na)), .val (.int (p0.toInt8.toInt32)), .val (.int (p1.toInt8.toInt32)), .val (.int (p2.toInt8.toInt32)), .val (.int (p3.toInt8.toInt32)), .val (.ref b1), .val (.ref bb), .val (.int (p5.toInt8.toInt32)), .val (.ref tx), .val (.int x16), .val (.int x17), .val (.int (1 : Int32))] [(.int (1 : Int32)), (.int (1 : Int32))]))
    refine Goes.go (fun _ kst => XS.iand X13.here hx rfl (hb hby at_439) rfl kst) ?_
    rw [show ((1 : Int32) &&& (1 : Int32)) = (1 : Int32) from by decide]
    show Goes p e below s _ _ _ (T13.setTop (mkF m 440 #[.val (.int p0), .val (.int p1), .val (.int p2), .val (.int p3), .val (.int p4), .val (.int p5), .val (.int (Int32.ofNat nn)), .val (.int (Int32.ofNat na)), .val (.int (p0.toInt8.toInt32)), .val (.int (p1.toInt8.toInt32)), .val (.int (p2.toInt8.toInt32)), .val (.int (p3.toInt8.toInt32)), .val (.ref b1), .val (.ref bb), .val (.int (p5.toInt8.toInt32)), .val (.ref tx), .val (.int x16), .val (.int x17), .val (.int (1 : Int32))] [(.int (1 : Int32))]))
    refine Goes.go (fun _ kst => XS.istore X13.here hx rfl (hb hby at_440) rfl (l' := #[.val (.int p0), .val (.int p1), .val (.int p2), .val (.int p3), .val (.int p4), .val (.int p5), .val (.int (Int32.ofNat nn)), .val (.int (Int32.ofNat na)), .val (.int (p0.toInt8.toInt32)), .val (.int (p1.toInt8.toInt32)), .val (.int (p2.toInt8.toInt32)), .val (.int (p3.toInt8.toInt32)), .val (.ref b1), .val (.ref bb), .val (.int (p5.toInt8.toInt32)), .val (.ref tx), .val (.int x16), .val (.int x17), .val (.int (1 : Int32))]) rfl kst) ?_
    show Goes p e below s _ _ _ (T13.setTop (mkF m 442 #[.val (.int p0), .val (.int p1), .val (.int p2), .val (.int p3), .val (.int p4), .val (.int p5), .val (.int (Int32.ofNat nn)), .val (.int (Int32.ofNat na)), .val (.int (p0.toInt8.toInt32)), .val (.int (p1.toInt8.toInt32)), .val (.int (p2.toInt8.toInt32)), .val (.int (p3.toInt8.toInt32)), .val (.ref b1), .val (.ref bb), .val (.int (p5.toInt8.toInt32)), .val (.ref tx), .val (.int x16), .val (.int x17), .val (.int (1 : Int32))] []))
    refine Goes.go (fun _ kst => XS.iload X13.here hx rfl (hb hby at_442) rfl  kst) ?_
    show Goes p e below s _ _ _ (T13.setTop (mkF m 444 #[.val (.int p0), .val (.int p1), .val (.int p2), .val (.int p3), .val (.int p4), .val (.int p5), .val (.int (Int32.ofNat nn)), .val (.int (Int32.ofNat na)), .val (.int (p0.toInt8.toInt32)), .val (.int (p1.toInt8.toInt32)), .val (.int (p2.toInt8.toInt32)), .val (.int (p3.toInt8.toInt32)), .val (.ref b1), .val (.ref bb), .val (.int (p5.toInt8.toInt32)), .val (.ref tx), .val (.int x16), .val (.int x17), .val (.int (1 : Int32))] [(.int (1 : Int32))]))
    refine Goes.go (fun _ kst => XS.aload X13.here hx rfl (hb hby at_444) rfl rfl  kst) ?_
    show Goes p e below s _ _ _ (T13.setTop (mkF m 446 #[.val (.int p0), .val (.int p1), .val (.int p2), .val (.int p3), .val (.int p4), .val (.int p5), .val (.int (Int32.ofNat nn)), .val (.int (Int32.ofNat na)), .val (.int (p0.toInt8.toInt32)), .val (.int (p1.toInt8.toInt32)), .val (.int (p2.toInt8.toInt32)), .val (.int (p3.toInt8.toInt32)), .val (.ref b1), .val (.ref bb), .val (.int (p5.toInt8.toInt32)), .val (.ref tx), .val (.int x16), .val (.int x17), .val (.int (1 : Int32))] [(.ref tx), (.int (1 : Int32))]))
    refine Goes.go (fun _ kst => XS.bipush X13.here hx rfl (hb hby at_446) kst) ?_
    show Goes p e below s _ _ _ (T13.setTop (mkF m 448 #[.val (.int p0), .val (.int p1), .val (.int p2), .val (.int p3), .val (.int p4), .val (.int p5), .val (.int (Int32.ofNat nn)), .val (.int (Int32.ofNat na)), .val (.int (p0.toInt8.toInt32)), .val (.int (p1.toInt8.toInt32)), .val (.int (p2.toInt8.toInt32)), .val (.int (p3.toInt8.toInt32)), .val (.ref b1), .val (.ref bb), .val (.int (p5.toInt8.toInt32)), .val (.ref tx), .val (.int x16), .val (.int x17), .val (.int (1 : Int32))] [(.int (7 : Int32)), (.ref tx), (.int (1 : Int32))]))
    refine Goes.go (fun _ kst => XS.iload X13.here hx rfl (hb hby at_448) rfl  kst) ?_
    show Goes p e below s _ _ _ (T13.setTop (mkF m 450 #[.val (.int p0), .val (.int p1), .val (.int p2), .val (.int p3), .val (.int p4), .val (.int p5), .val (.int (Int32.ofNat nn)), .val (.int (Int32.ofNat na)), .val (.int (p0.toInt8.toInt32)), .val (.int (p1.toInt8.toInt32)), .val (.int (p2.toInt8.toInt32)), .val (.int (p3.toInt8.toInt32)), .val (.ref b1), .val (.ref bb), .val (.int (p5.toInt8.toInt32)), .val (.ref tx), .val (.int x16), .val (.int x17), .val (.int (1 : Int32))] [(.int (Int32.ofNat na)), (.int (7 : Int32)), (.ref tx), (.int (1 : Int32))]))
    refine Goes.go (fun _ kst => XS.iload X13.here hx rfl (hb hby at_450) rfl  kst) ?_
    show Goes p e below s _ _ _ (T13.setTop (mkF m 452 #[.val (.int p0), .val (.int p1), .val (.int p2), .val (.int p3), .val (.int p4), .val (.int p5), .val (.int (Int32.ofNat nn)), .val (.int (Int32.ofNat na)), .val (.int (p0.toInt8.toInt32)), .val (.int (p1.toInt8.toInt32)), .val (.int (p2.toInt8.toInt32)), .val (.int (p3.toInt8.toInt32)), .val (.ref b1), .val (.ref bb), .val (.int (p5.toInt8.toInt32)), .val (.ref tx), .val (.int x16), .val (.int x17), .val (.int (1 : Int32))] [(.int (Int32.ofNat nn)), (.int (Int32.ofNat na)), (.int (7 : Int32)), (.ref tx), (.int (1 : Int32))]))
    refine Goes.go (fun _ kst => XS.aload X13.here hx rfl (hb hby at_452) rfl rfl  kst) ?_
    show Goes p e below s _ _ _ (T13.setTop (mkF m 454 #[.val (.int p0), .val (.int p1), .val (.int p2), .val (.int p3), .val (.int p4), .val (.int p5), .val (.int (Int32.ofNat nn)), .val (.int (Int32.ofNat na)), .val (.int (p0.toInt8.toInt32)), .val (.int (p1.toInt8.toInt32)), .val (.int (p2.toInt8.toInt32)), .val (.int (p3.toInt8.toInt32)), .val (.ref b1), .val (.ref bb), .val (.int (p5.toInt8.toInt32)), .val (.ref tx), .val (.int x16), .val (.int x17), .val (.int (1 : Int32))] [(.ref b1), (.int (Int32.ofNat nn)), (.int (Int32.ofNat na)), (.int (7 : Int32)), (.ref tx), (.int (1 : Int32))]))
    refine Goes.go (fun _ kst => XS.iload X13.here hx rfl (hb hby at_454) rfl  kst) ?_
    show Goes p e below s _ _ _ (T13.setTop (mkF m 456 #[.val (.int p0), .val (.int p1), .val (.int p2), .val (.int p3), .val (.int p4), .val (.int p5), .val (.int (Int32.ofNat nn)), .val (.int (Int32.ofNat na)), .val (.int (p0.toInt8.toInt32)), .val (.int (p1.toInt8.toInt32)), .val (.int (p2.toInt8.toInt32)), .val (.int (p3.toInt8.toInt32)), .val (.ref b1), .val (.ref bb), .val (.int (p5.toInt8.toInt32)), .val (.ref tx), .val (.int x16), .val (.int x17), .val (.int (1 : Int32))] [(.int (p5.toInt8.toInt32)), (.ref b1), (.int (Int32.ofNat nn)), (.int (Int32.ofNat na)), (.int (7 : Int32)), (.ref tx), (.int (1 : Int32))]))
    obtain ⟨_, _, ⟨T14, L14, k14, n14⟩, -, X14, ⟨Lc14, hQ14, l14, y14, z14⟩, st14⟩ := Jvm.LawKit.callS X13 hx (y := (⟨"org/cardprobe/HexFormatPinLaw", "cell", "([BIII[BB)Z"⟩ : MethodName)) hown (mvT hZ (hw _ (List.mem_of_getElem? (i := 5) rfl))) (mvT hZ (hw _ (List.mem_of_getElem? (i := 6) rfl))) (mvT hZ (hw _ (List.mem_of_getElem? (i := 7) rfl))) (mvT hZ (hw _ (List.mem_of_getElem? (i := 8) rfl))) (by decide) (backOf (W := 1) (rm2 l Z a0 hw [] tx b1 (p5.toInt8.toInt32) 15 (own_fmt vv nn 0 na tt) 4 vv 7 na nn hJ n0 ZJ AT15 AV12 (by decide) hna hnn rfl rfl) hZ (hw _ (List.mem_of_getElem? (i := 8) rfl)) (hw _ (List.mem_of_getElem? (i := 7) rfl)) (by decide) (by decide)) (g := (mkF m 456 #[.val (.int p0), .val (.int p1), .val (.int p2), .val (.int p3), .val (.int p4), .val (.int p5), .val (.int (Int32.ofNat nn)), .val (.int (Int32.ofNat na)), .val (.int (p0.toInt8.toInt32)), .val (.int (p1.toInt8.toInt32)), .val (.int (p2.toInt8.toInt32)), .val (.int (p3.toInt8.toInt32)), .val (.ref b1), .val (.ref bb), .val (.int (p5.toInt8.toInt32)), .val (.ref tx), .val (.int x16), .val (.int x17), .val (.int (1 : Int32))] [(.int (p5.toInt8.toInt32)), (.ref b1), (.int (Int32.ofNat nn)), (.int (Int32.ofNat na)), (.int (7 : Int32)), (.ref tx), (.int (1 : Int32))])) rfl (by rw [hml]; rfl) (argsL := [(.ref tx), (.int (7 : Int32)), (.int (Int32.ofNat na)), (.int (Int32.ofNat nn)), (.ref b1), (.int (p5.toInt8.toInt32))]) (rest := [(.int (1 : Int32))]) (lenOf pd_1 rfl) rfl (by show 2 * 0 + _ ≤ _; exact Nat.le_of_eq rfl) (hb hby at_456) (fun _ _ => ⟨rfl, e13, (by decide : 3 + 0 ≤ _), (by decide : 23 + 0 ≤ _)⟩)
    dsimp only [Pt.U, Pt.locs, Pt.cells, Pt.slots] at X14 l14 y14 z14 st14 hQ14
    subst l14 y14 z14
    obtain ⟨rfl, N14q, e14⟩ := hQ14
    have N14 := Fr.app N13 N14q
    refine Goes.go st14 ?_
    rw [show (f2 tx b1 (p5.toInt8.toInt32) 15 (own_fmt vv nn 0 na tt) 4 vv 7 na nn) = (1 : Int32) from own_c7 hna hnn hvb ht]
    show Goes p e below s _ _ _ (T14.setTop (mkF m 459 #[.val (.int p0), .val (.int p1), .val (.int p2), .val (.int p3), .val (.int p4), .val (.int p5), .val (.int (Int32.ofNat nn)), .val (.int (Int32.ofNat na)), .val (.int (p0.toInt8.toInt32)), .val (.int (p1.toInt8.toInt32)), .val (.int (p2.toInt8.toInt32)), .val (.int (p3.toInt8.toInt32)), .val (.ref b1), .val (.ref bb), .val (.int (p5.toInt8.toInt32)), .val (.ref tx), .val (.int x16), .val (.int x17), .val (.int (1 : Int32))] [(.int (1 : Int32)), (.int (1 : Int32))]))
    refine Goes.go (fun _ kst => XS.iand X14.here hx rfl (hb hby at_459) rfl kst) ?_
    rw [show ((1 : Int32) &&& (1 : Int32)) = (1 : Int32) from by decide]
    show Goes p e below s _ _ _ (T14.setTop (mkF m 460 #[.val (.int p0), .val (.int p1), .val (.int p2), .val (.int p3), .val (.int p4), .val (.int p5), .val (.int (Int32.ofNat nn)), .val (.int (Int32.ofNat na)), .val (.int (p0.toInt8.toInt32)), .val (.int (p1.toInt8.toInt32)), .val (.int (p2.toInt8.toInt32)), .val (.int (p3.toInt8.toInt32)), .val (.ref b1), .val (.ref bb), .val (.int (p5.toInt8.toInt32)), .val (.ref tx), .val (.int x16), .val (.int x17), .val (.int (1 : Int32))] [(.int (1 : Int32))]))
    refine Goes.go (fun _ kst => XS.istore X14.here hx rfl (hb hby at_460) rfl (l' := #[.val (.int p0), .val (.int p1), .val (.int p2), .val (.int p3), .val (.int p4), .val (.int p5), .val (.int (Int32.ofNat nn)), .val (.int (Int32.ofNat na)), .val (.int (p0.toInt8.toInt32)), .val (.int (p1.toInt8.toInt32)), .val (.int (p2.toInt8.toInt32)), .val (.int (p3.toInt8.toInt32)), .val (.ref b1), .val (.ref bb), .val (.int (p5.toInt8.toInt32)), .val (.ref tx), .val (.int x16), .val (.int x17), .val (.int (1 : Int32))]) rfl kst) ?_
    show Goes p e below s _ _ _ (T14.setTop (mkF m 462 #[.val (.int p0), .val (.int p1), .val (.int p2), .val (.int p3), .val (.int p4), .val (.int p5), .val (.int (Int32.ofNat nn)), .val (.int (Int32.ofNat na)), .val (.int (p0.toInt8.toInt32)), .val (.int (p1.toInt8.toInt32)), .val (.int (p2.toInt8.toInt32)), .val (.int (p3.toInt8.toInt32)), .val (.ref b1), .val (.ref bb), .val (.int (p5.toInt8.toInt32)), .val (.ref tx), .val (.int x16), .val (.int x17), .val (.int (1 : Int32))] []))
    refine Goes.go (fun _ kst => XS.iload X14.here hx rfl (hb hby at_462) rfl  kst) ?_
    show Goes p e below s _ _ _ (T14.setTop (mkF m 464 #[.val (.int p0), .val (.int p1), .val (.int p2), .val (.int p3), .val (.int p4), .val (.int p5), .val (.int (Int32.ofNat nn)), .val (.int (Int32.ofNat na)), .val (.int (p0.toInt8.toInt32)), .val (.int (p1.toInt8.toInt32)), .val (.int (p2.toInt8.toInt32)), .val (.int (p3.toInt8.toInt32)), .val (.ref b1), .val (.ref bb), .val (.int (p5.toInt8.toInt32)), .val (.ref tx), .val (.int x16), .val (.int x17), .val (.int (1 : Int32))] [(.int (1 : Int32))]))
    refine Goes.go (fun _ kst => XS.aload X14.here hx rfl (hb hby at_464) rfl rfl  kst) ?_
    show Goes p e below s _ _ _ (T14.setTop (mkF m 466 #[.val (.int p0), .val (.int p1), .val (.int p2), .val (.int p3), .val (.int p4), .val (.int p5), .val (.int (Int32.ofNat nn)), .val (.int (Int32.ofNat na)), .val (.int (p0.toInt8.toInt32)), .val (.int (p1.toInt8.toInt32)), .val (.int (p2.toInt8.toInt32)), .val (.int (p3.toInt8.toInt32)), .val (.ref b1), .val (.ref bb), .val (.int (p5.toInt8.toInt32)), .val (.ref tx), .val (.int x16), .val (.int x17), .val (.int (1 : Int32))] [(.ref tx), (.int (1 : Int32))]))
    refine Goes.go (fun _ kst => XS.bipush X14.here hx rfl (hb hby at_466) kst) ?_
    show Goes p e below s _ _ _ (T14.setTop (mkF m 468 #[.val (.int p0), .val (.int p1), .val (.int p2), .val (.int p3), .val (.int p4), .val (.int p5), .val (.int (Int32.ofNat nn)), .val (.int (Int32.ofNat na)), .val (.int (p0.toInt8.toInt32)), .val (.int (p1.toInt8.toInt32)), .val (.int (p2.toInt8.toInt32)), .val (.int (p3.toInt8.toInt32)), .val (.ref b1), .val (.ref bb), .val (.int (p5.toInt8.toInt32)), .val (.ref tx), .val (.int x16), .val (.int x17), .val (.int (1 : Int32))] [(.int (8 : Int32)), (.ref tx), (.int (1 : Int32))]))
    refine Goes.go (fun _ kst => XS.iload X14.here hx rfl (hb hby at_468) rfl  kst) ?_
    show Goes p e below s _ _ _ (T14.setTop (mkF m 470 #[.val (.int p0), .val (.int p1), .val (.int p2), .val (.int p3), .val (.int p4), .val (.int p5), .val (.int (Int32.ofNat nn)), .val (.int (Int32.ofNat na)), .val (.int (p0.toInt8.toInt32)), .val (.int (p1.toInt8.toInt32)), .val (.int (p2.toInt8.toInt32)), .val (.int (p3.toInt8.toInt32)), .val (.ref b1), .val (.ref bb), .val (.int (p5.toInt8.toInt32)), .val (.ref tx), .val (.int x16), .val (.int x17), .val (.int (1 : Int32))] [(.int (Int32.ofNat na)), (.int (8 : Int32)), (.ref tx), (.int (1 : Int32))]))
    refine Goes.go (fun _ kst => XS.iload X14.here hx rfl (hb hby at_470) rfl  kst) ?_
    show Goes p e below s _ _ _ (T14.setTop (mkF m 472 #[.val (.int p0), .val (.int p1), .val (.int p2), .val (.int p3), .val (.int p4), .val (.int p5), .val (.int (Int32.ofNat nn)), .val (.int (Int32.ofNat na)), .val (.int (p0.toInt8.toInt32)), .val (.int (p1.toInt8.toInt32)), .val (.int (p2.toInt8.toInt32)), .val (.int (p3.toInt8.toInt32)), .val (.ref b1), .val (.ref bb), .val (.int (p5.toInt8.toInt32)), .val (.ref tx), .val (.int x16), .val (.int x17), .val (.int (1 : Int32))] [(.int (Int32.ofNat nn)), (.int (Int32.ofNat na)), (.int (8 : Int32)), (.ref tx), (.int (1 : Int32))]))
    refine Goes.go (fun _ kst => XS.aload X14.here hx rfl (hb hby at_472) rfl rfl  kst) ?_
    show Goes p e below s _ _ _ (T14.setTop (mkF m 474 #[.val (.int p0), .val (.int p1), .val (.int p2), .val (.int p3), .val (.int p4), .val (.int p5), .val (.int (Int32.ofNat nn)), .val (.int (Int32.ofNat na)), .val (.int (p0.toInt8.toInt32)), .val (.int (p1.toInt8.toInt32)), .val (.int (p2.toInt8.toInt32)), .val (.int (p3.toInt8.toInt32)), .val (.ref b1), .val (.ref bb), .val (.int (p5.toInt8.toInt32)), .val (.ref tx), .val (.int x16), .val (.int x17), .val (.int (1 : Int32))] [(.ref b1), (.int (Int32.ofNat nn)), (.int (Int32.ofNat na)), (.int (8 : Int32)), (.ref tx), (.int (1 : Int32))]))
    refine Goes.go (fun _ kst => XS.iload X14.here hx rfl (hb hby at_474) rfl  kst) ?_
    show Goes p e below s _ _ _ (T14.setTop (mkF m 476 #[.val (.int p0), .val (.int p1), .val (.int p2), .val (.int p3), .val (.int p4), .val (.int p5), .val (.int (Int32.ofNat nn)), .val (.int (Int32.ofNat na)), .val (.int (p0.toInt8.toInt32)), .val (.int (p1.toInt8.toInt32)), .val (.int (p2.toInt8.toInt32)), .val (.int (p3.toInt8.toInt32)), .val (.ref b1), .val (.ref bb), .val (.int (p5.toInt8.toInt32)), .val (.ref tx), .val (.int x16), .val (.int x17), .val (.int (1 : Int32))] [(.int (p5.toInt8.toInt32)), (.ref b1), (.int (Int32.ofNat nn)), (.int (Int32.ofNat na)), (.int (8 : Int32)), (.ref tx), (.int (1 : Int32))]))
    obtain ⟨_, _, ⟨T15, L15, k15, n15⟩, -, X15, ⟨Lc15, hQ15, l15, y15, z15⟩, st15⟩ := Jvm.LawKit.callS X14 hx (y := (⟨"org/cardprobe/HexFormatPinLaw", "cell", "([BIII[BB)Z"⟩ : MethodName)) hown (mvT hZ (hw _ (List.mem_of_getElem? (i := 5) rfl))) (mvT hZ (hw _ (List.mem_of_getElem? (i := 6) rfl))) (mvT hZ (hw _ (List.mem_of_getElem? (i := 7) rfl))) (mvT hZ (hw _ (List.mem_of_getElem? (i := 8) rfl))) (by decide) (backOf (W := 1) (rm2 l Z a0 hw [] tx b1 (p5.toInt8.toInt32) 15 (own_fmt vv nn 0 na tt) 4 vv 8 na nn hJ n0 ZJ AT15 AV12 (by decide) hna hnn rfl rfl) hZ (hw _ (List.mem_of_getElem? (i := 8) rfl)) (hw _ (List.mem_of_getElem? (i := 7) rfl)) (by decide) (by decide)) (g := (mkF m 476 #[.val (.int p0), .val (.int p1), .val (.int p2), .val (.int p3), .val (.int p4), .val (.int p5), .val (.int (Int32.ofNat nn)), .val (.int (Int32.ofNat na)), .val (.int (p0.toInt8.toInt32)), .val (.int (p1.toInt8.toInt32)), .val (.int (p2.toInt8.toInt32)), .val (.int (p3.toInt8.toInt32)), .val (.ref b1), .val (.ref bb), .val (.int (p5.toInt8.toInt32)), .val (.ref tx), .val (.int x16), .val (.int x17), .val (.int (1 : Int32))] [(.int (p5.toInt8.toInt32)), (.ref b1), (.int (Int32.ofNat nn)), (.int (Int32.ofNat na)), (.int (8 : Int32)), (.ref tx), (.int (1 : Int32))])) rfl (by rw [hml]; rfl) (argsL := [(.ref tx), (.int (8 : Int32)), (.int (Int32.ofNat na)), (.int (Int32.ofNat nn)), (.ref b1), (.int (p5.toInt8.toInt32))]) (rest := [(.int (1 : Int32))]) (lenOf pd_1 rfl) rfl (by show 2 * 0 + _ ≤ _; exact Nat.le_of_eq rfl) (hb hby at_476) (fun _ _ => ⟨rfl, e14, (by decide : 3 + 0 ≤ _), (by decide : 23 + 0 ≤ _)⟩)
    dsimp only [Pt.U, Pt.locs, Pt.cells, Pt.slots] at X15 l15 y15 z15 st15 hQ15
    subst l15 y15 z15
    obtain ⟨rfl, N15q, e15⟩ := hQ15
    have N15 := Fr.app N14 N15q
    refine Goes.go st15 ?_
    rw [show (f2 tx b1 (p5.toInt8.toInt32) 15 (own_fmt vv nn 0 na tt) 4 vv 8 na nn) = (1 : Int32) from own_c8 hna hnn hvb ht]
    show Goes p e below s _ _ _ (T15.setTop (mkF m 479 #[.val (.int p0), .val (.int p1), .val (.int p2), .val (.int p3), .val (.int p4), .val (.int p5), .val (.int (Int32.ofNat nn)), .val (.int (Int32.ofNat na)), .val (.int (p0.toInt8.toInt32)), .val (.int (p1.toInt8.toInt32)), .val (.int (p2.toInt8.toInt32)), .val (.int (p3.toInt8.toInt32)), .val (.ref b1), .val (.ref bb), .val (.int (p5.toInt8.toInt32)), .val (.ref tx), .val (.int x16), .val (.int x17), .val (.int (1 : Int32))] [(.int (1 : Int32)), (.int (1 : Int32))]))
    refine Goes.go (fun _ kst => XS.iand X15.here hx rfl (hb hby at_479) rfl kst) ?_
    rw [show ((1 : Int32) &&& (1 : Int32)) = (1 : Int32) from by decide]
    show Goes p e below s _ _ _ (T15.setTop (mkF m 480 #[.val (.int p0), .val (.int p1), .val (.int p2), .val (.int p3), .val (.int p4), .val (.int p5), .val (.int (Int32.ofNat nn)), .val (.int (Int32.ofNat na)), .val (.int (p0.toInt8.toInt32)), .val (.int (p1.toInt8.toInt32)), .val (.int (p2.toInt8.toInt32)), .val (.int (p3.toInt8.toInt32)), .val (.ref b1), .val (.ref bb), .val (.int (p5.toInt8.toInt32)), .val (.ref tx), .val (.int x16), .val (.int x17), .val (.int (1 : Int32))] [(.int (1 : Int32))]))
    refine Goes.go (fun _ kst => XS.istore X15.here hx rfl (hb hby at_480) rfl (l' := #[.val (.int p0), .val (.int p1), .val (.int p2), .val (.int p3), .val (.int p4), .val (.int p5), .val (.int (Int32.ofNat nn)), .val (.int (Int32.ofNat na)), .val (.int (p0.toInt8.toInt32)), .val (.int (p1.toInt8.toInt32)), .val (.int (p2.toInt8.toInt32)), .val (.int (p3.toInt8.toInt32)), .val (.ref b1), .val (.ref bb), .val (.int (p5.toInt8.toInt32)), .val (.ref tx), .val (.int x16), .val (.int x17), .val (.int (1 : Int32))]) rfl kst) ?_
    show Goes p e below s _ _ _ (T15.setTop (mkF m 482 #[.val (.int p0), .val (.int p1), .val (.int p2), .val (.int p3), .val (.int p4), .val (.int p5), .val (.int (Int32.ofNat nn)), .val (.int (Int32.ofNat na)), .val (.int (p0.toInt8.toInt32)), .val (.int (p1.toInt8.toInt32)), .val (.int (p2.toInt8.toInt32)), .val (.int (p3.toInt8.toInt32)), .val (.ref b1), .val (.ref bb), .val (.int (p5.toInt8.toInt32)), .val (.ref tx), .val (.int x16), .val (.int x17), .val (.int (1 : Int32))] []))
    refine Goes.go (fun _ kst => XS.iload X15.here hx rfl (hb hby at_482) rfl  kst) ?_
    show Goes p e below s _ _ _ (T15.setTop (mkF m 484 #[.val (.int p0), .val (.int p1), .val (.int p2), .val (.int p3), .val (.int p4), .val (.int p5), .val (.int (Int32.ofNat nn)), .val (.int (Int32.ofNat na)), .val (.int (p0.toInt8.toInt32)), .val (.int (p1.toInt8.toInt32)), .val (.int (p2.toInt8.toInt32)), .val (.int (p3.toInt8.toInt32)), .val (.ref b1), .val (.ref bb), .val (.int (p5.toInt8.toInt32)), .val (.ref tx), .val (.int x16), .val (.int x17), .val (.int (1 : Int32))] [(.int (1 : Int32))]))
    refine Goes.go (fun _ kst => XS.aload X15.here hx rfl (hb hby at_484) rfl rfl  kst) ?_
    show Goes p e below s _ _ _ (T15.setTop (mkF m 486 #[.val (.int p0), .val (.int p1), .val (.int p2), .val (.int p3), .val (.int p4), .val (.int p5), .val (.int (Int32.ofNat nn)), .val (.int (Int32.ofNat na)), .val (.int (p0.toInt8.toInt32)), .val (.int (p1.toInt8.toInt32)), .val (.int (p2.toInt8.toInt32)), .val (.int (p3.toInt8.toInt32)), .val (.ref b1), .val (.ref bb), .val (.int (p5.toInt8.toInt32)), .val (.ref tx), .val (.int x16), .val (.int x17), .val (.int (1 : Int32))] [(.ref tx), (.int (1 : Int32))]))
    refine Goes.go (fun _ kst => XS.bipush X15.here hx rfl (hb hby at_486) kst) ?_
    show Goes p e below s _ _ _ (T15.setTop (mkF m 488 #[.val (.int p0), .val (.int p1), .val (.int p2), .val (.int p3), .val (.int p4), .val (.int p5), .val (.int (Int32.ofNat nn)), .val (.int (Int32.ofNat na)), .val (.int (p0.toInt8.toInt32)), .val (.int (p1.toInt8.toInt32)), .val (.int (p2.toInt8.toInt32)), .val (.int (p3.toInt8.toInt32)), .val (.ref b1), .val (.ref bb), .val (.int (p5.toInt8.toInt32)), .val (.ref tx), .val (.int x16), .val (.int x17), .val (.int (1 : Int32))] [(.int (9 : Int32)), (.ref tx), (.int (1 : Int32))]))
    refine Goes.go (fun _ kst => XS.iload X15.here hx rfl (hb hby at_488) rfl  kst) ?_
    show Goes p e below s _ _ _ (T15.setTop (mkF m 490 #[.val (.int p0), .val (.int p1), .val (.int p2), .val (.int p3), .val (.int p4), .val (.int p5), .val (.int (Int32.ofNat nn)), .val (.int (Int32.ofNat na)), .val (.int (p0.toInt8.toInt32)), .val (.int (p1.toInt8.toInt32)), .val (.int (p2.toInt8.toInt32)), .val (.int (p3.toInt8.toInt32)), .val (.ref b1), .val (.ref bb), .val (.int (p5.toInt8.toInt32)), .val (.ref tx), .val (.int x16), .val (.int x17), .val (.int (1 : Int32))] [(.int (Int32.ofNat na)), (.int (9 : Int32)), (.ref tx), (.int (1 : Int32))]))
    refine Goes.go (fun _ kst => XS.iload X15.here hx rfl (hb hby at_490) rfl  kst) ?_
    show Goes p e below s _ _ _ (T15.setTop (mkF m 492 #[.val (.int p0), .val (.int p1), .val (.int p2), .val (.int p3), .val (.int p4), .val (.int p5), .val (.int (Int32.ofNat nn)), .val (.int (Int32.ofNat na)), .val (.int (p0.toInt8.toInt32)), .val (.int (p1.toInt8.toInt32)), .val (.int (p2.toInt8.toInt32)), .val (.int (p3.toInt8.toInt32)), .val (.ref b1), .val (.ref bb), .val (.int (p5.toInt8.toInt32)), .val (.ref tx), .val (.int x16), .val (.int x17), .val (.int (1 : Int32))] [(.int (Int32.ofNat nn)), (.int (Int32.ofNat na)), (.int (9 : Int32)), (.ref tx), (.int (1 : Int32))]))
    refine Goes.go (fun _ kst => XS.aload X15.here hx rfl (hb hby at_492) rfl rfl  kst) ?_
    show Goes p e below s _ _ _ (T15.setTop (mkF m 494 #[.val (.int p0), .val (.int p1), .val (.int p2), .val (.int p3), .val (.int p4), .val (.int p5), .val (.int (Int32.ofNat nn)), .val (.int (Int32.ofNat na)), .val (.int (p0.toInt8.toInt32)), .val (.int (p1.toInt8.toInt32)), .val (.int (p2.toInt8.toInt32)), .val (.int (p3.toInt8.toInt32)), .val (.ref b1), .val (.ref bb), .val (.int (p5.toInt8.toInt32)), .val (.ref tx), .val (.int x16), .val (.int x17), .val (.int (1 : Int32))] [(.ref b1), (.int (Int32.ofNat nn)), (.int (Int32.ofNat na)), (.int (9 : Int32)), (.ref tx), (.int (1 : Int32))]))
    refine Goes.go (fun _ kst => XS.iload X15.here hx rfl (hb hby at_494) rfl  kst) ?_
    show Goes p e below s _ _ _ (T15.setTop (mkF m 496 #[.val (.int p0), .val (.int p1), .val (.int p2), .val (.int p3), .val (.int p4), .val (.int p5), .val (.int (Int32.ofNat nn)), .val (.int (Int32.ofNat na)), .val (.int (p0.toInt8.toInt32)), .val (.int (p1.toInt8.toInt32)), .val (.int (p2.toInt8.toInt32)), .val (.int (p3.toInt8.toInt32)), .val (.ref b1), .val (.ref bb), .val (.int (p5.toInt8.toInt32)), .val (.ref tx), .val (.int x16), .val (.int x17), .val (.int (1 : Int32))] [(.int (p5.toInt8.toInt32)), (.ref b1), (.int (Int32.ofNat nn)), (.int (Int32.ofNat na)), (.int (9 : Int32)), (.ref tx), (.int (1 : Int32))]))
    obtain ⟨_, _, ⟨T16, L16, k16, n16⟩, -, X16, ⟨Lc16, hQ16, l16, y16, z16⟩, st16⟩ := Jvm.LawKit.callS X15 hx (y := (⟨"org/cardprobe/HexFormatPinLaw", "cell", "([BIII[BB)Z"⟩ : MethodName)) hown (mvT hZ (hw _ (List.mem_of_getElem? (i := 5) rfl))) (mvT hZ (hw _ (List.mem_of_getElem? (i := 6) rfl))) (mvT hZ (hw _ (List.mem_of_getElem? (i := 7) rfl))) (mvT hZ (hw _ (List.mem_of_getElem? (i := 8) rfl))) (by decide) (backOf (W := 1) (rm2 l Z a0 hw [] tx b1 (p5.toInt8.toInt32) 15 (own_fmt vv nn 0 na tt) 4 vv 9 na nn hJ n0 ZJ AT15 AV12 (by decide) hna hnn rfl rfl) hZ (hw _ (List.mem_of_getElem? (i := 8) rfl)) (hw _ (List.mem_of_getElem? (i := 7) rfl)) (by decide) (by decide)) (g := (mkF m 496 #[.val (.int p0), .val (.int p1), .val (.int p2), .val (.int p3), .val (.int p4), .val (.int p5), .val (.int (Int32.ofNat nn)), .val (.int (Int32.ofNat na)), .val (.int (p0.toInt8.toInt32)), .val (.int (p1.toInt8.toInt32)), .val (.int (p2.toInt8.toInt32)), .val (.int (p3.toInt8.toInt32)), .val (.ref b1), .val (.ref bb), .val (.int (p5.toInt8.toInt32)), .val (.ref tx), .val (.int x16), .val (.int x17), .val (.int (1 : Int32))] [(.int (p5.toInt8.toInt32)), (.ref b1), (.int (Int32.ofNat nn)), (.int (Int32.ofNat na)), (.int (9 : Int32)), (.ref tx), (.int (1 : Int32))])) rfl (by rw [hml]; rfl) (argsL := [(.ref tx), (.int (9 : Int32)), (.int (Int32.ofNat na)), (.int (Int32.ofNat nn)), (.ref b1), (.int (p5.toInt8.toInt32))]) (rest := [(.int (1 : Int32))]) (lenOf pd_1 rfl) rfl (by show 2 * 0 + _ ≤ _; exact Nat.le_of_eq rfl) (hb hby at_496) (fun _ _ => ⟨rfl, e15, (by decide : 3 + 0 ≤ _), (by decide : 23 + 0 ≤ _)⟩)
    dsimp only [Pt.U, Pt.locs, Pt.cells, Pt.slots] at X16 l16 y16 z16 st16 hQ16
    subst l16 y16 z16
    obtain ⟨rfl, N16q, e16⟩ := hQ16
    have N16 := Fr.app N15 N16q
    refine Goes.go st16 ?_
    rw [show (f2 tx b1 (p5.toInt8.toInt32) 15 (own_fmt vv nn 0 na tt) 4 vv 9 na nn) = (1 : Int32) from own_c9 hna hnn hvb ht]
    show Goes p e below s _ _ _ (T16.setTop (mkF m 499 #[.val (.int p0), .val (.int p1), .val (.int p2), .val (.int p3), .val (.int p4), .val (.int p5), .val (.int (Int32.ofNat nn)), .val (.int (Int32.ofNat na)), .val (.int (p0.toInt8.toInt32)), .val (.int (p1.toInt8.toInt32)), .val (.int (p2.toInt8.toInt32)), .val (.int (p3.toInt8.toInt32)), .val (.ref b1), .val (.ref bb), .val (.int (p5.toInt8.toInt32)), .val (.ref tx), .val (.int x16), .val (.int x17), .val (.int (1 : Int32))] [(.int (1 : Int32)), (.int (1 : Int32))]))
    refine Goes.go (fun _ kst => XS.iand X16.here hx rfl (hb hby at_499) rfl kst) ?_
    rw [show ((1 : Int32) &&& (1 : Int32)) = (1 : Int32) from by decide]
    show Goes p e below s _ _ _ (T16.setTop (mkF m 500 #[.val (.int p0), .val (.int p1), .val (.int p2), .val (.int p3), .val (.int p4), .val (.int p5), .val (.int (Int32.ofNat nn)), .val (.int (Int32.ofNat na)), .val (.int (p0.toInt8.toInt32)), .val (.int (p1.toInt8.toInt32)), .val (.int (p2.toInt8.toInt32)), .val (.int (p3.toInt8.toInt32)), .val (.ref b1), .val (.ref bb), .val (.int (p5.toInt8.toInt32)), .val (.ref tx), .val (.int x16), .val (.int x17), .val (.int (1 : Int32))] [(.int (1 : Int32))]))
    refine Goes.go (fun _ kst => XS.istore X16.here hx rfl (hb hby at_500) rfl (l' := #[.val (.int p0), .val (.int p1), .val (.int p2), .val (.int p3), .val (.int p4), .val (.int p5), .val (.int (Int32.ofNat nn)), .val (.int (Int32.ofNat na)), .val (.int (p0.toInt8.toInt32)), .val (.int (p1.toInt8.toInt32)), .val (.int (p2.toInt8.toInt32)), .val (.int (p3.toInt8.toInt32)), .val (.ref b1), .val (.ref bb), .val (.int (p5.toInt8.toInt32)), .val (.ref tx), .val (.int x16), .val (.int x17), .val (.int (1 : Int32))]) rfl kst) ?_
    exact J502 _ _ _ _ tt ht X16 e16 N16 ZJ KJ AT15 AV12
  have J308 : ∀ (bb tx : Addr) (x16 x17 : Int32) (tt : Nat → Int32) (ht : ∀ i, i < 15 → tt i = nar .byte (p5.toInt8.toInt32)) {TJ : State} {lj : List Loc} {hJ : Heap} (XJ : Stand p l e room_1 s m #[(.int p0), (.int p1), (.int p2), (.int p3), (.int p4), (.int p5)] below meth c TJ lj 3 23) (eJ : TJ.heap = hJ) (NJ : Fr n0 lj) (ZJ : n0 ≤ hJ.size) (KJ : Keep h0 hJ []) (AT15 : IA Z hJ tx .byte 15 (own_fmt vv nn 0 na tt)) (AV12 : IA Z hJ b1 .byte 4 vv), Goes p e below s (Q0 n0) room_1.cells room_1.slots (TJ.setTop (mkF m 308 #[.val (.int p0), .val (.int p1), .val (.int p2), .val (.int p3), .val (.int p4), .val (.int p5), .val (.int (Int32.ofNat nn)), .val (.int (Int32.ofNat na)), .val (.int (p0.toInt8.toInt32)), .val (.int (p1.toInt8.toInt32)), .val (.int (p2.toInt8.toInt32)), .val (.int (p3.toInt8.toInt32)), .val (.ref b1), .val (.ref bb), .val (.int (p5.toInt8.toInt32)), .val (.ref tx), .val (.int x16), .val (.int x17), .val (.int (1 : Int32))] [])) := by
    intro bb tx x16 x17 tt ht TJ lj hJ XJ eJ NJ ZJ KJ AT15 AV12
    show Goes p e below s _ _ _ (TJ.setTop (mkF m 308 #[.val (.int p0), .val (.int p1), .val (.int p2), .val (.int p3), .val (.int p4), .val (.int p5), .val (.int (Int32.ofNat nn)), .val (.int (Int32.ofNat na)), .val (.int (p0.toInt8.toInt32)), .val (.int (p1.toInt8.toInt32)), .val (.int (p2.toInt8.toInt32)), .val (.int (p3.toInt8.toInt32)), .val (.ref b1), .val (.ref bb), .val (.int (p5.toInt8.toInt32)), .val (.ref tx), .val (.int x16), .val (.int x17), .val (.int (1 : Int32))] []))
    refine Goes.go (fun _ kst => XS.iload XJ.here hx rfl (hb hby at_308) rfl  kst) ?_
    show Goes p e below s _ _ _ (TJ.setTop (mkF m 310 #[.val (.int p0), .val (.int p1), .val (.int p2), .val (.int p3), .val (.int p4), .val (.int p5), .val (.int (Int32.ofNat nn)), .val (.int (Int32.ofNat na)), .val (.int (p0.toInt8.toInt32)), .val (.int (p1.toInt8.toInt32)), .val (.int (p2.toInt8.toInt32)), .val (.int (p3.toInt8.toInt32)), .val (.ref b1), .val (.ref bb), .val (.int (p5.toInt8.toInt32)), .val (.ref tx), .val (.int x16), .val (.int x17), .val (.int (1 : Int32))] [(.int (1 : Int32))]))
    refine Goes.go (fun _ kst => XS.aload XJ.here hx rfl (hb hby at_310) rfl rfl  kst) ?_
    show Goes p e below s _ _ _ (TJ.setTop (mkF m 312 #[.val (.int p0), .val (.int p1), .val (.int p2), .val (.int p3), .val (.int p4), .val (.int p5), .val (.int (Int32.ofNat nn)), .val (.int (Int32.ofNat na)), .val (.int (p0.toInt8.toInt32)), .val (.int (p1.toInt8.toInt32)), .val (.int (p2.toInt8.toInt32)), .val (.int (p3.toInt8.toInt32)), .val (.ref b1), .val (.ref bb), .val (.int (p5.toInt8.toInt32)), .val (.ref tx), .val (.int x16), .val (.int x17), .val (.int (1 : Int32))] [(.ref tx), (.int (1 : Int32))]))
    refine Goes.go (fun _ kst => XS.iconst XJ.here hx rfl (hb hby at_312) kst) ?_
    show Goes p e below s _ _ _ (TJ.setTop (mkF m 313 #[.val (.int p0), .val (.int p1), .val (.int p2), .val (.int p3), .val (.int p4), .val (.int p5), .val (.int (Int32.ofNat nn)), .val (.int (Int32.ofNat na)), .val (.int (p0.toInt8.toInt32)), .val (.int (p1.toInt8.toInt32)), .val (.int (p2.toInt8.toInt32)), .val (.int (p3.toInt8.toInt32)), .val (.ref b1), .val (.ref bb), .val (.int (p5.toInt8.toInt32)), .val (.ref tx), .val (.int x16), .val (.int x17), .val (.int (1 : Int32))] [(.int (0 : Int32)), (.ref tx), (.int (1 : Int32))]))
    refine Goes.go (fun _ kst => XS.iload XJ.here hx rfl (hb hby at_313) rfl  kst) ?_
    show Goes p e below s _ _ _ (TJ.setTop (mkF m 315 #[.val (.int p0), .val (.int p1), .val (.int p2), .val (.int p3), .val (.int p4), .val (.int p5), .val (.int (Int32.ofNat nn)), .val (.int (Int32.ofNat na)), .val (.int (p0.toInt8.toInt32)), .val (.int (p1.toInt8.toInt32)), .val (.int (p2.toInt8.toInt32)), .val (.int (p3.toInt8.toInt32)), .val (.ref b1), .val (.ref bb), .val (.int (p5.toInt8.toInt32)), .val (.ref tx), .val (.int x16), .val (.int x17), .val (.int (1 : Int32))] [(.int (Int32.ofNat na)), (.int (0 : Int32)), (.ref tx), (.int (1 : Int32))]))
    refine Goes.go (fun _ kst => XS.iload XJ.here hx rfl (hb hby at_315) rfl  kst) ?_
    show Goes p e below s _ _ _ (TJ.setTop (mkF m 317 #[.val (.int p0), .val (.int p1), .val (.int p2), .val (.int p3), .val (.int p4), .val (.int p5), .val (.int (Int32.ofNat nn)), .val (.int (Int32.ofNat na)), .val (.int (p0.toInt8.toInt32)), .val (.int (p1.toInt8.toInt32)), .val (.int (p2.toInt8.toInt32)), .val (.int (p3.toInt8.toInt32)), .val (.ref b1), .val (.ref bb), .val (.int (p5.toInt8.toInt32)), .val (.ref tx), .val (.int x16), .val (.int x17), .val (.int (1 : Int32))] [(.int (Int32.ofNat nn)), (.int (Int32.ofNat na)), (.int (0 : Int32)), (.ref tx), (.int (1 : Int32))]))
    refine Goes.go (fun _ kst => XS.aload XJ.here hx rfl (hb hby at_317) rfl rfl  kst) ?_
    show Goes p e below s _ _ _ (TJ.setTop (mkF m 319 #[.val (.int p0), .val (.int p1), .val (.int p2), .val (.int p3), .val (.int p4), .val (.int p5), .val (.int (Int32.ofNat nn)), .val (.int (Int32.ofNat na)), .val (.int (p0.toInt8.toInt32)), .val (.int (p1.toInt8.toInt32)), .val (.int (p2.toInt8.toInt32)), .val (.int (p3.toInt8.toInt32)), .val (.ref b1), .val (.ref bb), .val (.int (p5.toInt8.toInt32)), .val (.ref tx), .val (.int x16), .val (.int x17), .val (.int (1 : Int32))] [(.ref b1), (.int (Int32.ofNat nn)), (.int (Int32.ofNat na)), (.int (0 : Int32)), (.ref tx), (.int (1 : Int32))]))
    refine Goes.go (fun _ kst => XS.iload XJ.here hx rfl (hb hby at_319) rfl  kst) ?_
    show Goes p e below s _ _ _ (TJ.setTop (mkF m 321 #[.val (.int p0), .val (.int p1), .val (.int p2), .val (.int p3), .val (.int p4), .val (.int p5), .val (.int (Int32.ofNat nn)), .val (.int (Int32.ofNat na)), .val (.int (p0.toInt8.toInt32)), .val (.int (p1.toInt8.toInt32)), .val (.int (p2.toInt8.toInt32)), .val (.int (p3.toInt8.toInt32)), .val (.ref b1), .val (.ref bb), .val (.int (p5.toInt8.toInt32)), .val (.ref tx), .val (.int x16), .val (.int x17), .val (.int (1 : Int32))] [(.int (p5.toInt8.toInt32)), (.ref b1), (.int (Int32.ofNat nn)), (.int (Int32.ofNat na)), (.int (0 : Int32)), (.ref tx), (.int (1 : Int32))]))
    obtain ⟨_, _, ⟨T17, L17, k17, n17⟩, -, X17, ⟨Lc17, hQ17, l17, y17, z17⟩, st17⟩ := Jvm.LawKit.callS XJ hx (y := (⟨"org/cardprobe/HexFormatPinLaw", "cell", "([BIII[BB)Z"⟩ : MethodName)) hown (mvT hZ (hw _ (List.mem_of_getElem? (i := 5) rfl))) (mvT hZ (hw _ (List.mem_of_getElem? (i := 6) rfl))) (mvT hZ (hw _ (List.mem_of_getElem? (i := 7) rfl))) (mvT hZ (hw _ (List.mem_of_getElem? (i := 8) rfl))) (by decide) (backOf (W := 1) (rm2 l Z a0 hw [] tx b1 (p5.toInt8.toInt32) 15 (own_fmt vv nn 0 na tt) 4 vv 0 na nn hJ n0 ZJ AT15 AV12 (by decide) hna hnn rfl rfl) hZ (hw _ (List.mem_of_getElem? (i := 8) rfl)) (hw _ (List.mem_of_getElem? (i := 7) rfl)) (by decide) (by decide)) (g := (mkF m 321 #[.val (.int p0), .val (.int p1), .val (.int p2), .val (.int p3), .val (.int p4), .val (.int p5), .val (.int (Int32.ofNat nn)), .val (.int (Int32.ofNat na)), .val (.int (p0.toInt8.toInt32)), .val (.int (p1.toInt8.toInt32)), .val (.int (p2.toInt8.toInt32)), .val (.int (p3.toInt8.toInt32)), .val (.ref b1), .val (.ref bb), .val (.int (p5.toInt8.toInt32)), .val (.ref tx), .val (.int x16), .val (.int x17), .val (.int (1 : Int32))] [(.int (p5.toInt8.toInt32)), (.ref b1), (.int (Int32.ofNat nn)), (.int (Int32.ofNat na)), (.int (0 : Int32)), (.ref tx), (.int (1 : Int32))])) rfl (by rw [hml]; rfl) (argsL := [(.ref tx), (.int (0 : Int32)), (.int (Int32.ofNat na)), (.int (Int32.ofNat nn)), (.ref b1), (.int (p5.toInt8.toInt32))]) (rest := [(.int (1 : Int32))]) (lenOf pd_1 rfl) rfl (by show 2 * 0 + _ ≤ _; exact Nat.le_of_eq rfl) (hb hby at_321) (fun _ _ => ⟨rfl, eJ, (by decide : 3 + 0 ≤ _), (by decide : 23 + 0 ≤ _)⟩)
    dsimp only [Pt.U, Pt.locs, Pt.cells, Pt.slots] at X17 l17 y17 z17 st17 hQ17
    subst l17 y17 z17
    obtain ⟨rfl, N17q, e17⟩ := hQ17
    have N17 := Fr.app NJ N17q
    refine Goes.go st17 ?_
    rw [show (f2 tx b1 (p5.toInt8.toInt32) 15 (own_fmt vv nn 0 na tt) 4 vv 0 na nn) = (1 : Int32) from own_c0 hna hnn hvb ht]
    show Goes p e below s _ _ _ (T17.setTop (mkF m 324 #[.val (.int p0), .val (.int p1), .val (.int p2), .val (.int p3), .val (.int p4), .val (.int p5), .val (.int (Int32.ofNat nn)), .val (.int (Int32.ofNat na)), .val (.int (p0.toInt8.toInt32)), .val (.int (p1.toInt8.toInt32)), .val (.int (p2.toInt8.toInt32)), .val (.int (p3.toInt8.toInt32)), .val (.ref b1), .val (.ref bb), .val (.int (p5.toInt8.toInt32)), .val (.ref tx), .val (.int x16), .val (.int x17), .val (.int (1 : Int32))] [(.int (1 : Int32)), (.int (1 : Int32))]))
    refine Goes.go (fun _ kst => XS.iand X17.here hx rfl (hb hby at_324) rfl kst) ?_
    rw [show ((1 : Int32) &&& (1 : Int32)) = (1 : Int32) from by decide]
    show Goes p e below s _ _ _ (T17.setTop (mkF m 325 #[.val (.int p0), .val (.int p1), .val (.int p2), .val (.int p3), .val (.int p4), .val (.int p5), .val (.int (Int32.ofNat nn)), .val (.int (Int32.ofNat na)), .val (.int (p0.toInt8.toInt32)), .val (.int (p1.toInt8.toInt32)), .val (.int (p2.toInt8.toInt32)), .val (.int (p3.toInt8.toInt32)), .val (.ref b1), .val (.ref bb), .val (.int (p5.toInt8.toInt32)), .val (.ref tx), .val (.int x16), .val (.int x17), .val (.int (1 : Int32))] [(.int (1 : Int32))]))
    refine Goes.go (fun _ kst => XS.istore X17.here hx rfl (hb hby at_325) rfl (l' := #[.val (.int p0), .val (.int p1), .val (.int p2), .val (.int p3), .val (.int p4), .val (.int p5), .val (.int (Int32.ofNat nn)), .val (.int (Int32.ofNat na)), .val (.int (p0.toInt8.toInt32)), .val (.int (p1.toInt8.toInt32)), .val (.int (p2.toInt8.toInt32)), .val (.int (p3.toInt8.toInt32)), .val (.ref b1), .val (.ref bb), .val (.int (p5.toInt8.toInt32)), .val (.ref tx), .val (.int x16), .val (.int x17), .val (.int (1 : Int32))]) rfl kst) ?_
    show Goes p e below s _ _ _ (T17.setTop (mkF m 327 #[.val (.int p0), .val (.int p1), .val (.int p2), .val (.int p3), .val (.int p4), .val (.int p5), .val (.int (Int32.ofNat nn)), .val (.int (Int32.ofNat na)), .val (.int (p0.toInt8.toInt32)), .val (.int (p1.toInt8.toInt32)), .val (.int (p2.toInt8.toInt32)), .val (.int (p3.toInt8.toInt32)), .val (.ref b1), .val (.ref bb), .val (.int (p5.toInt8.toInt32)), .val (.ref tx), .val (.int x16), .val (.int x17), .val (.int (1 : Int32))] []))
    refine Goes.go (fun _ kst => XS.iload X17.here hx rfl (hb hby at_327) rfl  kst) ?_
    show Goes p e below s _ _ _ (T17.setTop (mkF m 329 #[.val (.int p0), .val (.int p1), .val (.int p2), .val (.int p3), .val (.int p4), .val (.int p5), .val (.int (Int32.ofNat nn)), .val (.int (Int32.ofNat na)), .val (.int (p0.toInt8.toInt32)), .val (.int (p1.toInt8.toInt32)), .val (.int (p2.toInt8.toInt32)), .val (.int (p3.toInt8.toInt32)), .val (.ref b1), .val (.ref bb), .val (.int (p5.toInt8.toInt32)), .val (.ref tx), .val (.int x16), .val (.int x17), .val (.int (1 : Int32))] [(.int (1 : Int32))]))
    refine Goes.go (fun _ kst => XS.aload X17.here hx rfl (hb hby at_329) rfl rfl  kst) ?_
    show Goes p e below s _ _ _ (T17.setTop (mkF m 331 #[.val (.int p0), .val (.int p1), .val (.int p2), .val (.int p3), .val (.int p4), .val (.int p5), .val (.int (Int32.ofNat nn)), .val (.int (Int32.ofNat na)), .val (.int (p0.toInt8.toInt32)), .val (.int (p1.toInt8.toInt32)), .val (.int (p2.toInt8.toInt32)), .val (.int (p3.toInt8.toInt32)), .val (.ref b1), .val (.ref bb), .val (.int (p5.toInt8.toInt32)), .val (.ref tx), .val (.int x16), .val (.int x17), .val (.int (1 : Int32))] [(.ref tx), (.int (1 : Int32))]))
    refine Goes.go (fun _ kst => XS.iconst X17.here hx rfl (hb hby at_331) kst) ?_
    show Goes p e below s _ _ _ (T17.setTop (mkF m 332 #[.val (.int p0), .val (.int p1), .val (.int p2), .val (.int p3), .val (.int p4), .val (.int p5), .val (.int (Int32.ofNat nn)), .val (.int (Int32.ofNat na)), .val (.int (p0.toInt8.toInt32)), .val (.int (p1.toInt8.toInt32)), .val (.int (p2.toInt8.toInt32)), .val (.int (p3.toInt8.toInt32)), .val (.ref b1), .val (.ref bb), .val (.int (p5.toInt8.toInt32)), .val (.ref tx), .val (.int x16), .val (.int x17), .val (.int (1 : Int32))] [(.int (1 : Int32)), (.ref tx), (.int (1 : Int32))]))
    refine Goes.go (fun _ kst => XS.iload X17.here hx rfl (hb hby at_332) rfl  kst) ?_
    show Goes p e below s _ _ _ (T17.setTop (mkF m 334 #[.val (.int p0), .val (.int p1), .val (.int p2), .val (.int p3), .val (.int p4), .val (.int p5), .val (.int (Int32.ofNat nn)), .val (.int (Int32.ofNat na)), .val (.int (p0.toInt8.toInt32)), .val (.int (p1.toInt8.toInt32)), .val (.int (p2.toInt8.toInt32)), .val (.int (p3.toInt8.toInt32)), .val (.ref b1), .val (.ref bb), .val (.int (p5.toInt8.toInt32)), .val (.ref tx), .val (.int x16), .val (.int x17), .val (.int (1 : Int32))] [(.int (Int32.ofNat na)), (.int (1 : Int32)), (.ref tx), (.int (1 : Int32))]))
    refine Goes.go (fun _ kst => XS.iload X17.here hx rfl (hb hby at_334) rfl  kst) ?_
    show Goes p e below s _ _ _ (T17.setTop (mkF m 336 #[.val (.int p0), .val (.int p1), .val (.int p2), .val (.int p3), .val (.int p4), .val (.int p5), .val (.int (Int32.ofNat nn)), .val (.int (Int32.ofNat na)), .val (.int (p0.toInt8.toInt32)), .val (.int (p1.toInt8.toInt32)), .val (.int (p2.toInt8.toInt32)), .val (.int (p3.toInt8.toInt32)), .val (.ref b1), .val (.ref bb), .val (.int (p5.toInt8.toInt32)), .val (.ref tx), .val (.int x16), .val (.int x17), .val (.int (1 : Int32))] [(.int (Int32.ofNat nn)), (.int (Int32.ofNat na)), (.int (1 : Int32)), (.ref tx), (.int (1 : Int32))]))
    refine Goes.go (fun _ kst => XS.aload X17.here hx rfl (hb hby at_336) rfl rfl  kst) ?_
    show Goes p e below s _ _ _ (T17.setTop (mkF m 338 #[.val (.int p0), .val (.int p1), .val (.int p2), .val (.int p3), .val (.int p4), .val (.int p5), .val (.int (Int32.ofNat nn)), .val (.int (Int32.ofNat na)), .val (.int (p0.toInt8.toInt32)), .val (.int (p1.toInt8.toInt32)), .val (.int (p2.toInt8.toInt32)), .val (.int (p3.toInt8.toInt32)), .val (.ref b1), .val (.ref bb), .val (.int (p5.toInt8.toInt32)), .val (.ref tx), .val (.int x16), .val (.int x17), .val (.int (1 : Int32))] [(.ref b1), (.int (Int32.ofNat nn)), (.int (Int32.ofNat na)), (.int (1 : Int32)), (.ref tx), (.int (1 : Int32))]))
    refine Goes.go (fun _ kst => XS.iload X17.here hx rfl (hb hby at_338) rfl  kst) ?_
    show Goes p e below s _ _ _ (T17.setTop (mkF m 340 #[.val (.int p0), .val (.int p1), .val (.int p2), .val (.int p3), .val (.int p4), .val (.int p5), .val (.int (Int32.ofNat nn)), .val (.int (Int32.ofNat na)), .val (.int (p0.toInt8.toInt32)), .val (.int (p1.toInt8.toInt32)), .val (.int (p2.toInt8.toInt32)), .val (.int (p3.toInt8.toInt32)), .val (.ref b1), .val (.ref bb), .val (.int (p5.toInt8.toInt32)), .val (.ref tx), .val (.int x16), .val (.int x17), .val (.int (1 : Int32))] [(.int (p5.toInt8.toInt32)), (.ref b1), (.int (Int32.ofNat nn)), (.int (Int32.ofNat na)), (.int (1 : Int32)), (.ref tx), (.int (1 : Int32))]))
    obtain ⟨_, _, ⟨T18, L18, k18, n18⟩, -, X18, ⟨Lc18, hQ18, l18, y18, z18⟩, st18⟩ := Jvm.LawKit.callS X17 hx (y := (⟨"org/cardprobe/HexFormatPinLaw", "cell", "([BIII[BB)Z"⟩ : MethodName)) hown (mvT hZ (hw _ (List.mem_of_getElem? (i := 5) rfl))) (mvT hZ (hw _ (List.mem_of_getElem? (i := 6) rfl))) (mvT hZ (hw _ (List.mem_of_getElem? (i := 7) rfl))) (mvT hZ (hw _ (List.mem_of_getElem? (i := 8) rfl))) (by decide) (backOf (W := 1) (rm2 l Z a0 hw [] tx b1 (p5.toInt8.toInt32) 15 (own_fmt vv nn 0 na tt) 4 vv 1 na nn hJ n0 ZJ AT15 AV12 (by decide) hna hnn rfl rfl) hZ (hw _ (List.mem_of_getElem? (i := 8) rfl)) (hw _ (List.mem_of_getElem? (i := 7) rfl)) (by decide) (by decide)) (g := (mkF m 340 #[.val (.int p0), .val (.int p1), .val (.int p2), .val (.int p3), .val (.int p4), .val (.int p5), .val (.int (Int32.ofNat nn)), .val (.int (Int32.ofNat na)), .val (.int (p0.toInt8.toInt32)), .val (.int (p1.toInt8.toInt32)), .val (.int (p2.toInt8.toInt32)), .val (.int (p3.toInt8.toInt32)), .val (.ref b1), .val (.ref bb), .val (.int (p5.toInt8.toInt32)), .val (.ref tx), .val (.int x16), .val (.int x17), .val (.int (1 : Int32))] [(.int (p5.toInt8.toInt32)), (.ref b1), (.int (Int32.ofNat nn)), (.int (Int32.ofNat na)), (.int (1 : Int32)), (.ref tx), (.int (1 : Int32))])) rfl (by rw [hml]; rfl) (argsL := [(.ref tx), (.int (1 : Int32)), (.int (Int32.ofNat na)), (.int (Int32.ofNat nn)), (.ref b1), (.int (p5.toInt8.toInt32))]) (rest := [(.int (1 : Int32))]) (lenOf pd_1 rfl) rfl (by show 2 * 0 + _ ≤ _; exact Nat.le_of_eq rfl) (hb hby at_340) (fun _ _ => ⟨rfl, e17, (by decide : 3 + 0 ≤ _), (by decide : 23 + 0 ≤ _)⟩)
    dsimp only [Pt.U, Pt.locs, Pt.cells, Pt.slots] at X18 l18 y18 z18 st18 hQ18
    subst l18 y18 z18
    obtain ⟨rfl, N18q, e18⟩ := hQ18
    have N18 := Fr.app N17 N18q
    refine Goes.go st18 ?_
    rw [show (f2 tx b1 (p5.toInt8.toInt32) 15 (own_fmt vv nn 0 na tt) 4 vv 1 na nn) = (1 : Int32) from own_c1 hna hnn hvb ht]
    show Goes p e below s _ _ _ (T18.setTop (mkF m 343 #[.val (.int p0), .val (.int p1), .val (.int p2), .val (.int p3), .val (.int p4), .val (.int p5), .val (.int (Int32.ofNat nn)), .val (.int (Int32.ofNat na)), .val (.int (p0.toInt8.toInt32)), .val (.int (p1.toInt8.toInt32)), .val (.int (p2.toInt8.toInt32)), .val (.int (p3.toInt8.toInt32)), .val (.ref b1), .val (.ref bb), .val (.int (p5.toInt8.toInt32)), .val (.ref tx), .val (.int x16), .val (.int x17), .val (.int (1 : Int32))] [(.int (1 : Int32)), (.int (1 : Int32))]))
    refine Goes.go (fun _ kst => XS.iand X18.here hx rfl (hb hby at_343) rfl kst) ?_
    rw [show ((1 : Int32) &&& (1 : Int32)) = (1 : Int32) from by decide]
    show Goes p e below s _ _ _ (T18.setTop (mkF m 344 #[.val (.int p0), .val (.int p1), .val (.int p2), .val (.int p3), .val (.int p4), .val (.int p5), .val (.int (Int32.ofNat nn)), .val (.int (Int32.ofNat na)), .val (.int (p0.toInt8.toInt32)), .val (.int (p1.toInt8.toInt32)), .val (.int (p2.toInt8.toInt32)), .val (.int (p3.toInt8.toInt32)), .val (.ref b1), .val (.ref bb), .val (.int (p5.toInt8.toInt32)), .val (.ref tx), .val (.int x16), .val (.int x17), .val (.int (1 : Int32))] [(.int (1 : Int32))]))
    refine Goes.go (fun _ kst => XS.istore X18.here hx rfl (hb hby at_344) rfl (l' := #[.val (.int p0), .val (.int p1), .val (.int p2), .val (.int p3), .val (.int p4), .val (.int p5), .val (.int (Int32.ofNat nn)), .val (.int (Int32.ofNat na)), .val (.int (p0.toInt8.toInt32)), .val (.int (p1.toInt8.toInt32)), .val (.int (p2.toInt8.toInt32)), .val (.int (p3.toInt8.toInt32)), .val (.ref b1), .val (.ref bb), .val (.int (p5.toInt8.toInt32)), .val (.ref tx), .val (.int x16), .val (.int x17), .val (.int (1 : Int32))]) rfl kst) ?_
    show Goes p e below s _ _ _ (T18.setTop (mkF m 346 #[.val (.int p0), .val (.int p1), .val (.int p2), .val (.int p3), .val (.int p4), .val (.int p5), .val (.int (Int32.ofNat nn)), .val (.int (Int32.ofNat na)), .val (.int (p0.toInt8.toInt32)), .val (.int (p1.toInt8.toInt32)), .val (.int (p2.toInt8.toInt32)), .val (.int (p3.toInt8.toInt32)), .val (.ref b1), .val (.ref bb), .val (.int (p5.toInt8.toInt32)), .val (.ref tx), .val (.int x16), .val (.int x17), .val (.int (1 : Int32))] []))
    refine Goes.go (fun _ kst => XS.iload X18.here hx rfl (hb hby at_346) rfl  kst) ?_
    show Goes p e below s _ _ _ (T18.setTop (mkF m 348 #[.val (.int p0), .val (.int p1), .val (.int p2), .val (.int p3), .val (.int p4), .val (.int p5), .val (.int (Int32.ofNat nn)), .val (.int (Int32.ofNat na)), .val (.int (p0.toInt8.toInt32)), .val (.int (p1.toInt8.toInt32)), .val (.int (p2.toInt8.toInt32)), .val (.int (p3.toInt8.toInt32)), .val (.ref b1), .val (.ref bb), .val (.int (p5.toInt8.toInt32)), .val (.ref tx), .val (.int x16), .val (.int x17), .val (.int (1 : Int32))] [(.int (1 : Int32))]))
    refine Goes.go (fun _ kst => XS.aload X18.here hx rfl (hb hby at_348) rfl rfl  kst) ?_
    show Goes p e below s _ _ _ (T18.setTop (mkF m 350 #[.val (.int p0), .val (.int p1), .val (.int p2), .val (.int p3), .val (.int p4), .val (.int p5), .val (.int (Int32.ofNat nn)), .val (.int (Int32.ofNat na)), .val (.int (p0.toInt8.toInt32)), .val (.int (p1.toInt8.toInt32)), .val (.int (p2.toInt8.toInt32)), .val (.int (p3.toInt8.toInt32)), .val (.ref b1), .val (.ref bb), .val (.int (p5.toInt8.toInt32)), .val (.ref tx), .val (.int x16), .val (.int x17), .val (.int (1 : Int32))] [(.ref tx), (.int (1 : Int32))]))
    refine Goes.go (fun _ kst => XS.iconst X18.here hx rfl (hb hby at_350) kst) ?_
    show Goes p e below s _ _ _ (T18.setTop (mkF m 351 #[.val (.int p0), .val (.int p1), .val (.int p2), .val (.int p3), .val (.int p4), .val (.int p5), .val (.int (Int32.ofNat nn)), .val (.int (Int32.ofNat na)), .val (.int (p0.toInt8.toInt32)), .val (.int (p1.toInt8.toInt32)), .val (.int (p2.toInt8.toInt32)), .val (.int (p3.toInt8.toInt32)), .val (.ref b1), .val (.ref bb), .val (.int (p5.toInt8.toInt32)), .val (.ref tx), .val (.int x16), .val (.int x17), .val (.int (1 : Int32))] [(.int (2 : Int32)), (.ref tx), (.int (1 : Int32))]))
    refine Goes.go (fun _ kst => XS.iload X18.here hx rfl (hb hby at_351) rfl  kst) ?_
    show Goes p e below s _ _ _ (T18.setTop (mkF m 353 #[.val (.int p0), .val (.int p1), .val (.int p2), .val (.int p3), .val (.int p4), .val (.int p5), .val (.int (Int32.ofNat nn)), .val (.int (Int32.ofNat na)), .val (.int (p0.toInt8.toInt32)), .val (.int (p1.toInt8.toInt32)), .val (.int (p2.toInt8.toInt32)), .val (.int (p3.toInt8.toInt32)), .val (.ref b1), .val (.ref bb), .val (.int (p5.toInt8.toInt32)), .val (.ref tx), .val (.int x16), .val (.int x17), .val (.int (1 : Int32))] [(.int (Int32.ofNat na)), (.int (2 : Int32)), (.ref tx), (.int (1 : Int32))]))
    refine Goes.go (fun _ kst => XS.iload X18.here hx rfl (hb hby at_353) rfl  kst) ?_
    show Goes p e below s _ _ _ (T18.setTop (mkF m 355 #[.val (.int p0), .val (.int p1), .val (.int p2), .val (.int p3), .val (.int p4), .val (.int p5), .val (.int (Int32.ofNat nn)), .val (.int (Int32.ofNat na)), .val (.int (p0.toInt8.toInt32)), .val (.int (p1.toInt8.toInt32)), .val (.int (p2.toInt8.toInt32)), .val (.int (p3.toInt8.toInt32)), .val (.ref b1), .val (.ref bb), .val (.int (p5.toInt8.toInt32)), .val (.ref tx), .val (.int x16), .val (.int x17), .val (.int (1 : Int32))] [(.int (Int32.ofNat nn)), (.int (Int32.ofNat na)), (.int (2 : Int32)), (.ref tx), (.int (1 : Int32))]))
    refine Goes.go (fun _ kst => XS.aload X18.here hx rfl (hb hby at_355) rfl rfl  kst) ?_
    show Goes p e below s _ _ _ (T18.setTop (mkF m 357 #[.val (.int p0), .val (.int p1), .val (.int p2), .val (.int p3), .val (.int p4), .val (.int p5), .val (.int (Int32.ofNat nn)), .val (.int (Int32.ofNat na)), .val (.int (p0.toInt8.toInt32)), .val (.int (p1.toInt8.toInt32)), .val (.int (p2.toInt8.toInt32)), .val (.int (p3.toInt8.toInt32)), .val (.ref b1), .val (.ref bb), .val (.int (p5.toInt8.toInt32)), .val (.ref tx), .val (.int x16), .val (.int x17), .val (.int (1 : Int32))] [(.ref b1), (.int (Int32.ofNat nn)), (.int (Int32.ofNat na)), (.int (2 : Int32)), (.ref tx), (.int (1 : Int32))]))
    refine Goes.go (fun _ kst => XS.iload X18.here hx rfl (hb hby at_357) rfl  kst) ?_
    show Goes p e below s _ _ _ (T18.setTop (mkF m 359 #[.val (.int p0), .val (.int p1), .val (.int p2), .val (.int p3), .val (.int p4), .val (.int p5), .val (.int (Int32.ofNat nn)), .val (.int (Int32.ofNat na)), .val (.int (p0.toInt8.toInt32)), .val (.int (p1.toInt8.toInt32)), .val (.int (p2.toInt8.toInt32)), .val (.int (p3.toInt8.toInt32)), .val (.ref b1), .val (.ref bb), .val (.int (p5.toInt8.toInt32)), .val (.ref tx), .val (.int x16), .val (.int x17), .val (.int (1 : Int32))] [(.int (p5.toInt8.toInt32)), (.ref b1), (.int (Int32.ofNat nn)), (.int (Int32.ofNat na)), (.int (2 : Int32)), (.ref tx), (.int (1 : Int32))]))
    obtain ⟨_, _, ⟨T19, L19, k19, n19⟩, -, X19, ⟨Lc19, hQ19, l19, y19, z19⟩, st19⟩ := Jvm.LawKit.callS X18 hx (y := (⟨"org/cardprobe/HexFormatPinLaw", "cell", "([BIII[BB)Z"⟩ : MethodName)) hown (mvT hZ (hw _ (List.mem_of_getElem? (i := 5) rfl))) (mvT hZ (hw _ (List.mem_of_getElem? (i := 6) rfl))) (mvT hZ (hw _ (List.mem_of_getElem? (i := 7) rfl))) (mvT hZ (hw _ (List.mem_of_getElem? (i := 8) rfl))) (by decide) (backOf (W := 1) (rm2 l Z a0 hw [] tx b1 (p5.toInt8.toInt32) 15 (own_fmt vv nn 0 na tt) 4 vv 2 na nn hJ n0 ZJ AT15 AV12 (by decide) hna hnn rfl rfl) hZ (hw _ (List.mem_of_getElem? (i := 8) rfl)) (hw _ (List.mem_of_getElem? (i := 7) rfl)) (by decide) (by decide)) (g := (mkF m 359 #[.val (.int p0), .val (.int p1), .val (.int p2), .val (.int p3), .val (.int p4), .val (.int p5), .val (.int (Int32.ofNat nn)), .val (.int (Int32.ofNat na)), .val (.int (p0.toInt8.toInt32)), .val (.int (p1.toInt8.toInt32)), .val (.int (p2.toInt8.toInt32)), .val (.int (p3.toInt8.toInt32)), .val (.ref b1), .val (.ref bb), .val (.int (p5.toInt8.toInt32)), .val (.ref tx), .val (.int x16), .val (.int x17), .val (.int (1 : Int32))] [(.int (p5.toInt8.toInt32)), (.ref b1), (.int (Int32.ofNat nn)), (.int (Int32.ofNat na)), (.int (2 : Int32)), (.ref tx), (.int (1 : Int32))])) rfl (by rw [hml]; rfl) (argsL := [(.ref tx), (.int (2 : Int32)), (.int (Int32.ofNat na)), (.int (Int32.ofNat nn)), (.ref b1), (.int (p5.toInt8.toInt32))]) (rest := [(.int (1 : Int32))]) (lenOf pd_1 rfl) rfl (by show 2 * 0 + _ ≤ _; exact Nat.le_of_eq rfl) (hb hby at_359) (fun _ _ => ⟨rfl, e18, (by decide : 3 + 0 ≤ _), (by decide : 23 + 0 ≤ _)⟩)
    dsimp only [Pt.U, Pt.locs, Pt.cells, Pt.slots] at X19 l19 y19 z19 st19 hQ19
    subst l19 y19 z19
    obtain ⟨rfl, N19q, e19⟩ := hQ19
    have N19 := Fr.app N18 N19q
    refine Goes.go st19 ?_
    rw [show (f2 tx b1 (p5.toInt8.toInt32) 15 (own_fmt vv nn 0 na tt) 4 vv 2 na nn) = (1 : Int32) from own_c2 hna hnn hvb ht]
    show Goes p e below s _ _ _ (T19.setTop (mkF m 362 #[.val (.int p0), .val (.int p1), .val (.int p2), .val (.int p3), .val (.int p4), .val (.int p5), .val (.int (Int32.ofNat nn)), .val (.int (Int32.ofNat na)), .val (.int (p0.toInt8.toInt32)), .val (.int (p1.toInt8.toInt32)), .val (.int (p2.toInt8.toInt32)), .val (.int (p3.toInt8.toInt32)), .val (.ref b1), .val (.ref bb), .val (.int (p5.toInt8.toInt32)), .val (.ref tx), .val (.int x16), .val (.int x17), .val (.int (1 : Int32))] [(.int (1 : Int32)), (.int (1 : Int32))]))
    refine Goes.go (fun _ kst => XS.iand X19.here hx rfl (hb hby at_362) rfl kst) ?_
    rw [show ((1 : Int32) &&& (1 : Int32)) = (1 : Int32) from by decide]
    show Goes p e below s _ _ _ (T19.setTop (mkF m 363 #[.val (.int p0), .val (.int p1), .val (.int p2), .val (.int p3), .val (.int p4), .val (.int p5), .val (.int (Int32.ofNat nn)), .val (.int (Int32.ofNat na)), .val (.int (p0.toInt8.toInt32)), .val (.int (p1.toInt8.toInt32)), .val (.int (p2.toInt8.toInt32)), .val (.int (p3.toInt8.toInt32)), .val (.ref b1), .val (.ref bb), .val (.int (p5.toInt8.toInt32)), .val (.ref tx), .val (.int x16), .val (.int x17), .val (.int (1 : Int32))] [(.int (1 : Int32))]))
    refine Goes.go (fun _ kst => XS.istore X19.here hx rfl (hb hby at_363) rfl (l' := #[.val (.int p0), .val (.int p1), .val (.int p2), .val (.int p3), .val (.int p4), .val (.int p5), .val (.int (Int32.ofNat nn)), .val (.int (Int32.ofNat na)), .val (.int (p0.toInt8.toInt32)), .val (.int (p1.toInt8.toInt32)), .val (.int (p2.toInt8.toInt32)), .val (.int (p3.toInt8.toInt32)), .val (.ref b1), .val (.ref bb), .val (.int (p5.toInt8.toInt32)), .val (.ref tx), .val (.int x16), .val (.int x17), .val (.int (1 : Int32))]) rfl kst) ?_
    show Goes p e below s _ _ _ (T19.setTop (mkF m 365 #[.val (.int p0), .val (.int p1), .val (.int p2), .val (.int p3), .val (.int p4), .val (.int p5), .val (.int (Int32.ofNat nn)), .val (.int (Int32.ofNat na)), .val (.int (p0.toInt8.toInt32)), .val (.int (p1.toInt8.toInt32)), .val (.int (p2.toInt8.toInt32)), .val (.int (p3.toInt8.toInt32)), .val (.ref b1), .val (.ref bb), .val (.int (p5.toInt8.toInt32)), .val (.ref tx), .val (.int x16), .val (.int x17), .val (.int (1 : Int32))] []))
    refine Goes.go (fun _ kst => XS.iload X19.here hx rfl (hb hby at_365) rfl  kst) ?_
    show Goes p e below s _ _ _ (T19.setTop (mkF m 367 #[.val (.int p0), .val (.int p1), .val (.int p2), .val (.int p3), .val (.int p4), .val (.int p5), .val (.int (Int32.ofNat nn)), .val (.int (Int32.ofNat na)), .val (.int (p0.toInt8.toInt32)), .val (.int (p1.toInt8.toInt32)), .val (.int (p2.toInt8.toInt32)), .val (.int (p3.toInt8.toInt32)), .val (.ref b1), .val (.ref bb), .val (.int (p5.toInt8.toInt32)), .val (.ref tx), .val (.int x16), .val (.int x17), .val (.int (1 : Int32))] [(.int (1 : Int32))]))
    refine Goes.go (fun _ kst => XS.aload X19.here hx rfl (hb hby at_367) rfl rfl  kst) ?_
    show Goes p e below s _ _ _ (T19.setTop (mkF m 369 #[.val (.int p0), .val (.int p1), .val (.int p2), .val (.int p3), .val (.int p4), .val (.int p5), .val (.int (Int32.ofNat nn)), .val (.int (Int32.ofNat na)), .val (.int (p0.toInt8.toInt32)), .val (.int (p1.toInt8.toInt32)), .val (.int (p2.toInt8.toInt32)), .val (.int (p3.toInt8.toInt32)), .val (.ref b1), .val (.ref bb), .val (.int (p5.toInt8.toInt32)), .val (.ref tx), .val (.int x16), .val (.int x17), .val (.int (1 : Int32))] [(.ref tx), (.int (1 : Int32))]))
    refine Goes.go (fun _ kst => XS.iconst X19.here hx rfl (hb hby at_369) kst) ?_
    show Goes p e below s _ _ _ (T19.setTop (mkF m 370 #[.val (.int p0), .val (.int p1), .val (.int p2), .val (.int p3), .val (.int p4), .val (.int p5), .val (.int (Int32.ofNat nn)), .val (.int (Int32.ofNat na)), .val (.int (p0.toInt8.toInt32)), .val (.int (p1.toInt8.toInt32)), .val (.int (p2.toInt8.toInt32)), .val (.int (p3.toInt8.toInt32)), .val (.ref b1), .val (.ref bb), .val (.int (p5.toInt8.toInt32)), .val (.ref tx), .val (.int x16), .val (.int x17), .val (.int (1 : Int32))] [(.int (3 : Int32)), (.ref tx), (.int (1 : Int32))]))
    refine Goes.go (fun _ kst => XS.iload X19.here hx rfl (hb hby at_370) rfl  kst) ?_
    show Goes p e below s _ _ _ (T19.setTop (mkF m 372 #[.val (.int p0), .val (.int p1), .val (.int p2), .val (.int p3), .val (.int p4), .val (.int p5), .val (.int (Int32.ofNat nn)), .val (.int (Int32.ofNat na)), .val (.int (p0.toInt8.toInt32)), .val (.int (p1.toInt8.toInt32)), .val (.int (p2.toInt8.toInt32)), .val (.int (p3.toInt8.toInt32)), .val (.ref b1), .val (.ref bb), .val (.int (p5.toInt8.toInt32)), .val (.ref tx), .val (.int x16), .val (.int x17), .val (.int (1 : Int32))] [(.int (Int32.ofNat na)), (.int (3 : Int32)), (.ref tx), (.int (1 : Int32))]))
    refine Goes.go (fun _ kst => XS.iload X19.here hx rfl (hb hby at_372) rfl  kst) ?_
    show Goes p e below s _ _ _ (T19.setTop (mkF m 374 #[.val (.int p0), .val (.int p1), .val (.int p2), .val (.int p3), .val (.int p4), .val (.int p5), .val (.int (Int32.ofNat nn)), .val (.int (Int32.ofNat na)), .val (.int (p0.toInt8.toInt32)), .val (.int (p1.toInt8.toInt32)), .val (.int (p2.toInt8.toInt32)), .val (.int (p3.toInt8.toInt32)), .val (.ref b1), .val (.ref bb), .val (.int (p5.toInt8.toInt32)), .val (.ref tx), .val (.int x16), .val (.int x17), .val (.int (1 : Int32))] [(.int (Int32.ofNat nn)), (.int (Int32.ofNat na)), (.int (3 : Int32)), (.ref tx), (.int (1 : Int32))]))
    refine Goes.go (fun _ kst => XS.aload X19.here hx rfl (hb hby at_374) rfl rfl  kst) ?_
    show Goes p e below s _ _ _ (T19.setTop (mkF m 376 #[.val (.int p0), .val (.int p1), .val (.int p2), .val (.int p3), .val (.int p4), .val (.int p5), .val (.int (Int32.ofNat nn)), .val (.int (Int32.ofNat na)), .val (.int (p0.toInt8.toInt32)), .val (.int (p1.toInt8.toInt32)), .val (.int (p2.toInt8.toInt32)), .val (.int (p3.toInt8.toInt32)), .val (.ref b1), .val (.ref bb), .val (.int (p5.toInt8.toInt32)), .val (.ref tx), .val (.int x16), .val (.int x17), .val (.int (1 : Int32))] [(.ref b1), (.int (Int32.ofNat nn)), (.int (Int32.ofNat na)), (.int (3 : Int32)), (.ref tx), (.int (1 : Int32))]))
    refine Goes.go (fun _ kst => XS.iload X19.here hx rfl (hb hby at_376) rfl  kst) ?_
    show Goes p e below s _ _ _ (T19.setTop (mkF m 378 #[.val (.int p0), .val (.int p1), .val (.int p2), .val (.int p3), .val (.int p4), .val (.int p5), .val (.int (Int32.ofNat nn)), .val (.int (Int32.ofNat na)), .val (.int (p0.toInt8.toInt32)), .val (.int (p1.toInt8.toInt32)), .val (.int (p2.toInt8.toInt32)), .val (.int (p3.toInt8.toInt32)), .val (.ref b1), .val (.ref bb), .val (.int (p5.toInt8.toInt32)), .val (.ref tx), .val (.int x16), .val (.int x17), .val (.int (1 : Int32))] [(.int (p5.toInt8.toInt32)), (.ref b1), (.int (Int32.ofNat nn)), (.int (Int32.ofNat na)), (.int (3 : Int32)), (.ref tx), (.int (1 : Int32))]))
    obtain ⟨_, _, ⟨T20, L20, k20, n20⟩, -, X20, ⟨Lc20, hQ20, l20, y20, z20⟩, st20⟩ := Jvm.LawKit.callS X19 hx (y := (⟨"org/cardprobe/HexFormatPinLaw", "cell", "([BIII[BB)Z"⟩ : MethodName)) hown (mvT hZ (hw _ (List.mem_of_getElem? (i := 5) rfl))) (mvT hZ (hw _ (List.mem_of_getElem? (i := 6) rfl))) (mvT hZ (hw _ (List.mem_of_getElem? (i := 7) rfl))) (mvT hZ (hw _ (List.mem_of_getElem? (i := 8) rfl))) (by decide) (backOf (W := 1) (rm2 l Z a0 hw [] tx b1 (p5.toInt8.toInt32) 15 (own_fmt vv nn 0 na tt) 4 vv 3 na nn hJ n0 ZJ AT15 AV12 (by decide) hna hnn rfl rfl) hZ (hw _ (List.mem_of_getElem? (i := 8) rfl)) (hw _ (List.mem_of_getElem? (i := 7) rfl)) (by decide) (by decide)) (g := (mkF m 378 #[.val (.int p0), .val (.int p1), .val (.int p2), .val (.int p3), .val (.int p4), .val (.int p5), .val (.int (Int32.ofNat nn)), .val (.int (Int32.ofNat na)), .val (.int (p0.toInt8.toInt32)), .val (.int (p1.toInt8.toInt32)), .val (.int (p2.toInt8.toInt32)), .val (.int (p3.toInt8.toInt32)), .val (.ref b1), .val (.ref bb), .val (.int (p5.toInt8.toInt32)), .val (.ref tx), .val (.int x16), .val (.int x17), .val (.int (1 : Int32))] [(.int (p5.toInt8.toInt32)), (.ref b1), (.int (Int32.ofNat nn)), (.int (Int32.ofNat na)), (.int (3 : Int32)), (.ref tx), (.int (1 : Int32))])) rfl (by rw [hml]; rfl) (argsL := [(.ref tx), (.int (3 : Int32)), (.int (Int32.ofNat na)), (.int (Int32.ofNat nn)), (.ref b1), (.int (p5.toInt8.toInt32))]) (rest := [(.int (1 : Int32))]) (lenOf pd_1 rfl) rfl (by show 2 * 0 + _ ≤ _; exact Nat.le_of_eq rfl) (hb hby at_378) (fun _ _ => ⟨rfl, e19, (by decide : 3 + 0 ≤ _), (by decide : 23 + 0 ≤ _)⟩)
    dsimp only [Pt.U, Pt.locs, Pt.cells, Pt.slots] at X20 l20 y20 z20 st20 hQ20
    subst l20 y20 z20
    obtain ⟨rfl, N20q, e20⟩ := hQ20
    have N20 := Fr.app N19 N20q
    refine Goes.go st20 ?_
    rw [show (f2 tx b1 (p5.toInt8.toInt32) 15 (own_fmt vv nn 0 na tt) 4 vv 3 na nn) = (1 : Int32) from own_c3 hna hnn hvb ht]
    show Goes p e below s _ _ _ (T20.setTop (mkF m 381 #[.val (.int p0), .val (.int p1), .val (.int p2), .val (.int p3), .val (.int p4), .val (.int p5), .val (.int (Int32.ofNat nn)), .val (.int (Int32.ofNat na)), .val (.int (p0.toInt8.toInt32)), .val (.int (p1.toInt8.toInt32)), .val (.int (p2.toInt8.toInt32)), .val (.int (p3.toInt8.toInt32)), .val (.ref b1), .val (.ref bb), .val (.int (p5.toInt8.toInt32)), .val (.ref tx), .val (.int x16), .val (.int x17), .val (.int (1 : Int32))] [(.int (1 : Int32)), (.int (1 : Int32))]))
    refine Goes.go (fun _ kst => XS.iand X20.here hx rfl (hb hby at_381) rfl kst) ?_
    rw [show ((1 : Int32) &&& (1 : Int32)) = (1 : Int32) from by decide]
    show Goes p e below s _ _ _ (T20.setTop (mkF m 382 #[.val (.int p0), .val (.int p1), .val (.int p2), .val (.int p3), .val (.int p4), .val (.int p5), .val (.int (Int32.ofNat nn)), .val (.int (Int32.ofNat na)), .val (.int (p0.toInt8.toInt32)), .val (.int (p1.toInt8.toInt32)), .val (.int (p2.toInt8.toInt32)), .val (.int (p3.toInt8.toInt32)), .val (.ref b1), .val (.ref bb), .val (.int (p5.toInt8.toInt32)), .val (.ref tx), .val (.int x16), .val (.int x17), .val (.int (1 : Int32))] [(.int (1 : Int32))]))
    refine Goes.go (fun _ kst => XS.istore X20.here hx rfl (hb hby at_382) rfl (l' := #[.val (.int p0), .val (.int p1), .val (.int p2), .val (.int p3), .val (.int p4), .val (.int p5), .val (.int (Int32.ofNat nn)), .val (.int (Int32.ofNat na)), .val (.int (p0.toInt8.toInt32)), .val (.int (p1.toInt8.toInt32)), .val (.int (p2.toInt8.toInt32)), .val (.int (p3.toInt8.toInt32)), .val (.ref b1), .val (.ref bb), .val (.int (p5.toInt8.toInt32)), .val (.ref tx), .val (.int x16), .val (.int x17), .val (.int (1 : Int32))]) rfl kst) ?_
    show Goes p e below s _ _ _ (T20.setTop (mkF m 384 #[.val (.int p0), .val (.int p1), .val (.int p2), .val (.int p3), .val (.int p4), .val (.int p5), .val (.int (Int32.ofNat nn)), .val (.int (Int32.ofNat na)), .val (.int (p0.toInt8.toInt32)), .val (.int (p1.toInt8.toInt32)), .val (.int (p2.toInt8.toInt32)), .val (.int (p3.toInt8.toInt32)), .val (.ref b1), .val (.ref bb), .val (.int (p5.toInt8.toInt32)), .val (.ref tx), .val (.int x16), .val (.int x17), .val (.int (1 : Int32))] []))
    refine Goes.go (fun _ kst => XS.iload X20.here hx rfl (hb hby at_384) rfl  kst) ?_
    show Goes p e below s _ _ _ (T20.setTop (mkF m 386 #[.val (.int p0), .val (.int p1), .val (.int p2), .val (.int p3), .val (.int p4), .val (.int p5), .val (.int (Int32.ofNat nn)), .val (.int (Int32.ofNat na)), .val (.int (p0.toInt8.toInt32)), .val (.int (p1.toInt8.toInt32)), .val (.int (p2.toInt8.toInt32)), .val (.int (p3.toInt8.toInt32)), .val (.ref b1), .val (.ref bb), .val (.int (p5.toInt8.toInt32)), .val (.ref tx), .val (.int x16), .val (.int x17), .val (.int (1 : Int32))] [(.int (1 : Int32))]))
    refine Goes.go (fun _ kst => XS.aload X20.here hx rfl (hb hby at_386) rfl rfl  kst) ?_
    show Goes p e below s _ _ _ (T20.setTop (mkF m 388 #[.val (.int p0), .val (.int p1), .val (.int p2), .val (.int p3), .val (.int p4), .val (.int p5), .val (.int (Int32.ofNat nn)), .val (.int (Int32.ofNat na)), .val (.int (p0.toInt8.toInt32)), .val (.int (p1.toInt8.toInt32)), .val (.int (p2.toInt8.toInt32)), .val (.int (p3.toInt8.toInt32)), .val (.ref b1), .val (.ref bb), .val (.int (p5.toInt8.toInt32)), .val (.ref tx), .val (.int x16), .val (.int x17), .val (.int (1 : Int32))] [(.ref tx), (.int (1 : Int32))]))
    refine Goes.go (fun _ kst => XS.iconst X20.here hx rfl (hb hby at_388) kst) ?_
    show Goes p e below s _ _ _ (T20.setTop (mkF m 389 #[.val (.int p0), .val (.int p1), .val (.int p2), .val (.int p3), .val (.int p4), .val (.int p5), .val (.int (Int32.ofNat nn)), .val (.int (Int32.ofNat na)), .val (.int (p0.toInt8.toInt32)), .val (.int (p1.toInt8.toInt32)), .val (.int (p2.toInt8.toInt32)), .val (.int (p3.toInt8.toInt32)), .val (.ref b1), .val (.ref bb), .val (.int (p5.toInt8.toInt32)), .val (.ref tx), .val (.int x16), .val (.int x17), .val (.int (1 : Int32))] [(.int (4 : Int32)), (.ref tx), (.int (1 : Int32))]))
    refine Goes.go (fun _ kst => XS.iload X20.here hx rfl (hb hby at_389) rfl  kst) ?_
    show Goes p e below s _ _ _ (T20.setTop (mkF m 391 #[.val (.int p0), .val (.int p1), .val (.int p2), .val (.int p3), .val (.int p4), .val (.int p5), .val (.int (Int32.ofNat nn)), .val (.int (Int32.ofNat na)), .val (.int (p0.toInt8.toInt32)), .val (.int (p1.toInt8.toInt32)), .val (.int (p2.toInt8.toInt32)), .val (.int (p3.toInt8.toInt32)), .val (.ref b1), .val (.ref bb), .val (.int (p5.toInt8.toInt32)), .val (.ref tx), .val (.int x16), .val (.int x17), .val (.int (1 : Int32))] [(.int (Int32.ofNat na)), (.int (4 : Int32)), (.ref tx), (.int (1 : Int32))]))
    refine Goes.go (fun _ kst => XS.iload X20.here hx rfl (hb hby at_391) rfl  kst) ?_
    show Goes p e below s _ _ _ (T20.setTop (mkF m 393 #[.val (.int p0), .val (.int p1), .val (.int p2), .val (.int p3), .val (.int p4), .val (.int p5), .val (.int (Int32.ofNat nn)), .val (.int (Int32.ofNat na)), .val (.int (p0.toInt8.toInt32)), .val (.int (p1.toInt8.toInt32)), .val (.int (p2.toInt8.toInt32)), .val (.int (p3.toInt8.toInt32)), .val (.ref b1), .val (.ref bb), .val (.int (p5.toInt8.toInt32)), .val (.ref tx), .val (.int x16), .val (.int x17), .val (.int (1 : Int32))] [(.int (Int32.ofNat nn)), (.int (Int32.ofNat na)), (.int (4 : Int32)), (.ref tx), (.int (1 : Int32))]))
    refine Goes.go (fun _ kst => XS.aload X20.here hx rfl (hb hby at_393) rfl rfl  kst) ?_
    show Goes p e below s _ _ _ (T20.setTop (mkF m 395 #[.val (.int p0), .val (.int p1), .val (.int p2), .val (.int p3), .val (.int p4), .val (.int p5), .val (.int (Int32.ofNat nn)), .val (.int (Int32.ofNat na)), .val (.int (p0.toInt8.toInt32)), .val (.int (p1.toInt8.toInt32)), .val (.int (p2.toInt8.toInt32)), .val (.int (p3.toInt8.toInt32)), .val (.ref b1), .val (.ref bb), .val (.int (p5.toInt8.toInt32)), .val (.ref tx), .val (.int x16), .val (.int x17), .val (.int (1 : Int32))] [(.ref b1), (.int (Int32.ofNat nn)), (.int (Int32.ofNat na)), (.int (4 : Int32)), (.ref tx), (.int (1 : Int32))]))
    refine Goes.go (fun _ kst => XS.iload X20.here hx rfl (hb hby at_395) rfl  kst) ?_
    show Goes p e below s _ _ _ (T20.setTop (mkF m 397 #[.val (.int p0), .val (.int p1), .val (.int p2), .val (.int p3), .val (.int p4), .val (.int p5), .val (.int (Int32.ofNat nn)), .val (.int (Int32.ofNat na)), .val (.int (p0.toInt8.toInt32)), .val (.int (p1.toInt8.toInt32)), .val (.int (p2.toInt8.toInt32)), .val (.int (p3.toInt8.toInt32)), .val (.ref b1), .val (.ref bb), .val (.int (p5.toInt8.toInt32)), .val (.ref tx), .val (.int x16), .val (.int x17), .val (.int (1 : Int32))] [(.int (p5.toInt8.toInt32)), (.ref b1), (.int (Int32.ofNat nn)), (.int (Int32.ofNat na)), (.int (4 : Int32)), (.ref tx), (.int (1 : Int32))]))
    obtain ⟨_, _, ⟨T21, L21, k21, n21⟩, -, X21, ⟨Lc21, hQ21, l21, y21, z21⟩, st21⟩ := Jvm.LawKit.callS X20 hx (y := (⟨"org/cardprobe/HexFormatPinLaw", "cell", "([BIII[BB)Z"⟩ : MethodName)) hown (mvT hZ (hw _ (List.mem_of_getElem? (i := 5) rfl))) (mvT hZ (hw _ (List.mem_of_getElem? (i := 6) rfl))) (mvT hZ (hw _ (List.mem_of_getElem? (i := 7) rfl))) (mvT hZ (hw _ (List.mem_of_getElem? (i := 8) rfl))) (by decide) (backOf (W := 1) (rm2 l Z a0 hw [] tx b1 (p5.toInt8.toInt32) 15 (own_fmt vv nn 0 na tt) 4 vv 4 na nn hJ n0 ZJ AT15 AV12 (by decide) hna hnn rfl rfl) hZ (hw _ (List.mem_of_getElem? (i := 8) rfl)) (hw _ (List.mem_of_getElem? (i := 7) rfl)) (by decide) (by decide)) (g := (mkF m 397 #[.val (.int p0), .val (.int p1), .val (.int p2), .val (.int p3), .val (.int p4), .val (.int p5), .val (.int (Int32.ofNat nn)), .val (.int (Int32.ofNat na)), .val (.int (p0.toInt8.toInt32)), .val (.int (p1.toInt8.toInt32)), .val (.int (p2.toInt8.toInt32)), .val (.int (p3.toInt8.toInt32)), .val (.ref b1), .val (.ref bb), .val (.int (p5.toInt8.toInt32)), .val (.ref tx), .val (.int x16), .val (.int x17), .val (.int (1 : Int32))] [(.int (p5.toInt8.toInt32)), (.ref b1), (.int (Int32.ofNat nn)), (.int (Int32.ofNat na)), (.int (4 : Int32)), (.ref tx), (.int (1 : Int32))])) rfl (by rw [hml]; rfl) (argsL := [(.ref tx), (.int (4 : Int32)), (.int (Int32.ofNat na)), (.int (Int32.ofNat nn)), (.ref b1), (.int (p5.toInt8.toInt32))]) (rest := [(.int (1 : Int32))]) (lenOf pd_1 rfl) rfl (by show 2 * 0 + _ ≤ _; exact Nat.le_of_eq rfl) (hb hby at_397) (fun _ _ => ⟨rfl, e20, (by decide : 3 + 0 ≤ _), (by decide : 23 + 0 ≤ _)⟩)
    dsimp only [Pt.U, Pt.locs, Pt.cells, Pt.slots] at X21 l21 y21 z21 st21 hQ21
    subst l21 y21 z21
    obtain ⟨rfl, N21q, e21⟩ := hQ21
    have N21 := Fr.app N20 N21q
    refine Goes.go st21 ?_
    rw [show (f2 tx b1 (p5.toInt8.toInt32) 15 (own_fmt vv nn 0 na tt) 4 vv 4 na nn) = (1 : Int32) from own_c4 hna hnn hvb ht]
    show Goes p e below s _ _ _ (T21.setTop (mkF m 400 #[.val (.int p0), .val (.int p1), .val (.int p2), .val (.int p3), .val (.int p4), .val (.int p5), .val (.int (Int32.ofNat nn)), .val (.int (Int32.ofNat na)), .val (.int (p0.toInt8.toInt32)), .val (.int (p1.toInt8.toInt32)), .val (.int (p2.toInt8.toInt32)), .val (.int (p3.toInt8.toInt32)), .val (.ref b1), .val (.ref bb), .val (.int (p5.toInt8.toInt32)), .val (.ref tx), .val (.int x16), .val (.int x17), .val (.int (1 : Int32))] [(.int (1 : Int32)), (.int (1 : Int32))]))
    refine Goes.go (fun _ kst => XS.iand X21.here hx rfl (hb hby at_400) rfl kst) ?_
    rw [show ((1 : Int32) &&& (1 : Int32)) = (1 : Int32) from by decide]
    show Goes p e below s _ _ _ (T21.setTop (mkF m 401 #[.val (.int p0), .val (.int p1), .val (.int p2), .val (.int p3), .val (.int p4), .val (.int p5), .val (.int (Int32.ofNat nn)), .val (.int (Int32.ofNat na)), .val (.int (p0.toInt8.toInt32)), .val (.int (p1.toInt8.toInt32)), .val (.int (p2.toInt8.toInt32)), .val (.int (p3.toInt8.toInt32)), .val (.ref b1), .val (.ref bb), .val (.int (p5.toInt8.toInt32)), .val (.ref tx), .val (.int x16), .val (.int x17), .val (.int (1 : Int32))] [(.int (1 : Int32))]))
    refine Goes.go (fun _ kst => XS.istore X21.here hx rfl (hb hby at_401) rfl (l' := #[.val (.int p0), .val (.int p1), .val (.int p2), .val (.int p3), .val (.int p4), .val (.int p5), .val (.int (Int32.ofNat nn)), .val (.int (Int32.ofNat na)), .val (.int (p0.toInt8.toInt32)), .val (.int (p1.toInt8.toInt32)), .val (.int (p2.toInt8.toInt32)), .val (.int (p3.toInt8.toInt32)), .val (.ref b1), .val (.ref bb), .val (.int (p5.toInt8.toInt32)), .val (.ref tx), .val (.int x16), .val (.int x17), .val (.int (1 : Int32))]) rfl kst) ?_
    exact J403 _ _ _ _ tt ht X21 e21 N21 ZJ KJ AT15 AV12
  have J263 : ∀ (bb tx : Addr) (tt : Nat → Int32) (ht : ∀ i, i < 15 → tt i = nar .byte (p5.toInt8.toInt32)) {TJ : State} {lj : List Loc} {hJ : Heap} (XJ : Stand p l e room_1 s m #[(.int p0), (.int p1), (.int p2), (.int p3), (.int p4), (.int p5)] below meth c TJ lj 3 23) (eJ : TJ.heap = hJ) (NJ : Fr n0 lj) (ZJ : n0 ≤ hJ.size) (KJ : Keep h0 hJ []) (AB13 : IA Z hJ bb .byte nn vv) (AT15 : IA Z hJ tx .byte 15 tt) (AV12 : IA Z hJ b1 .byte 4 vv) (EX : Exa Z hJ tx "[B") (gx : n0 ≤ tx) (sx : h0.size ≤ tx) (nbx : bb ≠ tx) (nvx : b1 ≠ tx), Goes p e below s (Q0 n0) room_1.cells room_1.slots (TJ.setTop (mkF m 263 #[.val (.int p0), .val (.int p1), .val (.int p2), .val (.int p3), .val (.int p4), .val (.int p5), .val (.int (Int32.ofNat nn)), .val (.int (Int32.ofNat na)), .val (.int (p0.toInt8.toInt32)), .val (.int (p1.toInt8.toInt32)), .val (.int (p2.toInt8.toInt32)), .val (.int (p3.toInt8.toInt32)), .val (.ref b1), .val (.ref bb), .val (.int (p5.toInt8.toInt32)), .val (.ref tx), .unset, .unset, .unset] [])) := by
    intro bb tx tt ht TJ lj hJ XJ eJ NJ ZJ KJ AB13 AT15 AV12 EX gx sx nbx nvx
    show Goes p e below s _ _ _ (TJ.setTop (mkF m 263 #[.val (.int p0), .val (.int p1), .val (.int p2), .val (.int p3), .val (.int p4), .val (.int p5), .val (.int (Int32.ofNat nn)), .val (.int (Int32.ofNat na)), .val (.int (p0.toInt8.toInt32)), .val (.int (p1.toInt8.toInt32)), .val (.int (p2.toInt8.toInt32)), .val (.int (p3.toInt8.toInt32)), .val (.ref b1), .val (.ref bb), .val (.int (p5.toInt8.toInt32)), .val (.ref tx), .unset, .unset, .unset] []))
    refine Goes.go (fun _ kst => XS.iload XJ.here hx rfl (hb hby at_263) rfl  kst) ?_
    show Goes p e below s _ _ _ (TJ.setTop (mkF m 265 #[.val (.int p0), .val (.int p1), .val (.int p2), .val (.int p3), .val (.int p4), .val (.int p5), .val (.int (Int32.ofNat nn)), .val (.int (Int32.ofNat na)), .val (.int (p0.toInt8.toInt32)), .val (.int (p1.toInt8.toInt32)), .val (.int (p2.toInt8.toInt32)), .val (.int (p3.toInt8.toInt32)), .val (.ref b1), .val (.ref bb), .val (.int (p5.toInt8.toInt32)), .val (.ref tx), .unset, .unset, .unset] [(.int (Int32.ofNat nn))]))
    obtain ⟨z22_s0, hz22_s0⟩ : ∃ z : Int32, z = if (Int32.ofNat nn) = (0 : Int32) then (0 : Int32) else (((3 : Int32) * (Int32.ofNat nn)) - (1 : Int32)) := ⟨_, rfl⟩
    have sm22 : ∀ t, Steps p.tables e below (TJ.setTop (mkF m 278 #[.val (.int p0), .val (.int p1), .val (.int p2), .val (.int p3), .val (.int p4), .val (.int p5), .val (.int (Int32.ofNat nn)), .val (.int (Int32.ofNat na)), .val (.int (p0.toInt8.toInt32)), .val (.int (p1.toInt8.toInt32)), .val (.int (p2.toInt8.toInt32)), .val (.int (p3.toInt8.toInt32)), .val (.ref b1), .val (.ref bb), .val (.int (p5.toInt8.toInt32)), .val (.ref tx), .unset, .unset, .unset] [(.int z22_s0)])) t → Steps p.tables e below (TJ.setTop (mkF m 265 #[.val (.int p0), .val (.int p1), .val (.int p2), .val (.int p3), .val (.int p4), .val (.int p5), .val (.int (Int32.ofNat nn)), .val (.int (Int32.ofNat na)), .val (.int (p0.toInt8.toInt32)), .val (.int (p1.toInt8.toInt32)), .val (.int (p2.toInt8.toInt32)), .val (.int (p3.toInt8.toInt32)), .val (.ref b1), .val (.ref bb), .val (.int (p5.toInt8.toInt32)), .val (.ref tx), .unset, .unset, .unset] [(.int (Int32.ofNat nn))])) t := by
      intro t kst
      by_cases hc265_22 : (Int32.ofNat nn) = (0 : Int32)
      · have kst2 : Steps p.tables e below (TJ.setTop (mkF m 278 #[.val (.int p0), .val (.int p1), .val (.int p2), .val (.int p3), .val (.int p4), .val (.int p5), .val (.int (Int32.ofNat nn)), .val (.int (Int32.ofNat na)), .val (.int (p0.toInt8.toInt32)), .val (.int (p1.toInt8.toInt32)), .val (.int (p2.toInt8.toInt32)), .val (.int (p3.toInt8.toInt32)), .val (.ref b1), .val (.ref bb), .val (.int (p5.toInt8.toInt32)), .val (.ref tx), .unset, .unset, .unset] [(.int (0 : Int32))])) t := by simpa only [hz22_s0, if_pos hc265_22] using kst
        show Steps p.tables e below (TJ.setTop (mkF m 265 #[.val (.int p0), .val (.int p1), .val (.int p2), .val (.int p3), .val (.int p4), .val (.int p5), .val (.int (Int32.ofNat nn)), .val (.int (Int32.ofNat na)), .val (.int (p0.toInt8.toInt32)), .val (.int (p1.toInt8.toInt32)), .val (.int (p2.toInt8.toInt32)), .val (.int (p3.toInt8.toInt32)), .val (.ref b1), .val (.ref bb), .val (.int (p5.toInt8.toInt32)), .val (.ref tx), .unset, .unset, .unset] [(.int (Int32.ofNat nn))])) _
        refine XS.ifNo XJ.here hx rfl (hb hby at_265) rfl ((if0 _ _).trans (teq hc265_22).2) ?_
        show Steps p.tables e below (TJ.setTop (mkF m 268 #[.val (.int p0), .val (.int p1), .val (.int p2), .val (.int p3), .val (.int p4), .val (.int p5), .val (.int (Int32.ofNat nn)), .val (.int (Int32.ofNat na)), .val (.int (p0.toInt8.toInt32)), .val (.int (p1.toInt8.toInt32)), .val (.int (p2.toInt8.toInt32)), .val (.int (p3.toInt8.toInt32)), .val (.ref b1), .val (.ref bb), .val (.int (p5.toInt8.toInt32)), .val (.ref tx), .unset, .unset, .unset] [])) _
        refine XS.iconst XJ.here hx rfl (hb hby at_268) ?_
        show Steps p.tables e below (TJ.setTop (mkF m 269 #[.val (.int p0), .val (.int p1), .val (.int p2), .val (.int p3), .val (.int p4), .val (.int p5), .val (.int (Int32.ofNat nn)), .val (.int (Int32.ofNat na)), .val (.int (p0.toInt8.toInt32)), .val (.int (p1.toInt8.toInt32)), .val (.int (p2.toInt8.toInt32)), .val (.int (p3.toInt8.toInt32)), .val (.ref b1), .val (.ref bb), .val (.int (p5.toInt8.toInt32)), .val (.ref tx), .unset, .unset, .unset] [(.int (0 : Int32))])) _
        refine XS.goto XJ.here hx rfl (pc0 := 269) (pc' := 278) rfl (hb hby at_269) (by decide) (by decide) ?_
        exact kst2
      · have kst2 : Steps p.tables e below (TJ.setTop (mkF m 278 #[.val (.int p0), .val (.int p1), .val (.int p2), .val (.int p3), .val (.int p4), .val (.int p5), .val (.int (Int32.ofNat nn)), .val (.int (Int32.ofNat na)), .val (.int (p0.toInt8.toInt32)), .val (.int (p1.toInt8.toInt32)), .val (.int (p2.toInt8.toInt32)), .val (.int (p3.toInt8.toInt32)), .val (.ref b1), .val (.ref bb), .val (.int (p5.toInt8.toInt32)), .val (.ref tx), .unset, .unset, .unset] [(.int (((3 : Int32) * (Int32.ofNat nn)) - (1 : Int32)))])) t := by simpa only [hz22_s0, if_neg hc265_22] using kst
        show Steps p.tables e below (TJ.setTop (mkF m 265 #[.val (.int p0), .val (.int p1), .val (.int p2), .val (.int p3), .val (.int p4), .val (.int p5), .val (.int (Int32.ofNat nn)), .val (.int (Int32.ofNat na)), .val (.int (p0.toInt8.toInt32)), .val (.int (p1.toInt8.toInt32)), .val (.int (p2.toInt8.toInt32)), .val (.int (p3.toInt8.toInt32)), .val (.ref b1), .val (.ref bb), .val (.int (p5.toInt8.toInt32)), .val (.ref tx), .unset, .unset, .unset] [(.int (Int32.ofNat nn))])) _
        refine XS.ifYes XJ.here hx rfl (pc0 := 265) (pc' := 272) rfl (hb hby at_265) rfl ((if0 _ _).trans (feq hc265_22).2) (by decide) (by decide) ?_
        show Steps p.tables e below (TJ.setTop (mkF m 272 #[.val (.int p0), .val (.int p1), .val (.int p2), .val (.int p3), .val (.int p4), .val (.int p5), .val (.int (Int32.ofNat nn)), .val (.int (Int32.ofNat na)), .val (.int (p0.toInt8.toInt32)), .val (.int (p1.toInt8.toInt32)), .val (.int (p2.toInt8.toInt32)), .val (.int (p3.toInt8.toInt32)), .val (.ref b1), .val (.ref bb), .val (.int (p5.toInt8.toInt32)), .val (.ref tx), .unset, .unset, .unset] [])) _
        refine XS.iconst XJ.here hx rfl (hb hby at_272) ?_
        show Steps p.tables e below (TJ.setTop (mkF m 273 #[.val (.int p0), .val (.int p1), .val (.int p2), .val (.int p3), .val (.int p4), .val (.int p5), .val (.int (Int32.ofNat nn)), .val (.int (Int32.ofNat na)), .val (.int (p0.toInt8.toInt32)), .val (.int (p1.toInt8.toInt32)), .val (.int (p2.toInt8.toInt32)), .val (.int (p3.toInt8.toInt32)), .val (.ref b1), .val (.ref bb), .val (.int (p5.toInt8.toInt32)), .val (.ref tx), .unset, .unset, .unset] [(.int (3 : Int32))])) _
        refine XS.iload XJ.here hx rfl (hb hby at_273) rfl  ?_
        show Steps p.tables e below (TJ.setTop (mkF m 275 #[.val (.int p0), .val (.int p1), .val (.int p2), .val (.int p3), .val (.int p4), .val (.int p5), .val (.int (Int32.ofNat nn)), .val (.int (Int32.ofNat na)), .val (.int (p0.toInt8.toInt32)), .val (.int (p1.toInt8.toInt32)), .val (.int (p2.toInt8.toInt32)), .val (.int (p3.toInt8.toInt32)), .val (.ref b1), .val (.ref bb), .val (.int (p5.toInt8.toInt32)), .val (.ref tx), .unset, .unset, .unset] [(.int (Int32.ofNat nn)), (.int (3 : Int32))])) _
        refine XS.imul XJ.here hx rfl (hb hby at_275) rfl ?_
        show Steps p.tables e below (TJ.setTop (mkF m 276 #[.val (.int p0), .val (.int p1), .val (.int p2), .val (.int p3), .val (.int p4), .val (.int p5), .val (.int (Int32.ofNat nn)), .val (.int (Int32.ofNat na)), .val (.int (p0.toInt8.toInt32)), .val (.int (p1.toInt8.toInt32)), .val (.int (p2.toInt8.toInt32)), .val (.int (p3.toInt8.toInt32)), .val (.ref b1), .val (.ref bb), .val (.int (p5.toInt8.toInt32)), .val (.ref tx), .unset, .unset, .unset] [(.int ((3 : Int32) * (Int32.ofNat nn)))])) _
        refine XS.iconst XJ.here hx rfl (hb hby at_276) ?_
        show Steps p.tables e below (TJ.setTop (mkF m 277 #[.val (.int p0), .val (.int p1), .val (.int p2), .val (.int p3), .val (.int p4), .val (.int p5), .val (.int (Int32.ofNat nn)), .val (.int (Int32.ofNat na)), .val (.int (p0.toInt8.toInt32)), .val (.int (p1.toInt8.toInt32)), .val (.int (p2.toInt8.toInt32)), .val (.int (p3.toInt8.toInt32)), .val (.ref b1), .val (.ref bb), .val (.int (p5.toInt8.toInt32)), .val (.ref tx), .unset, .unset, .unset] [(.int (1 : Int32)), (.int ((3 : Int32) * (Int32.ofNat nn)))])) _
        refine XS.isub XJ.here hx rfl (hb hby at_277) rfl ?_
        exact kst2
    refine Goes.go sm22 ?_
    show Goes p e below s _ _ _ (TJ.setTop (mkF m 278 #[.val (.int p0), .val (.int p1), .val (.int p2), .val (.int p3), .val (.int p4), .val (.int p5), .val (.int (Int32.ofNat nn)), .val (.int (Int32.ofNat na)), .val (.int (p0.toInt8.toInt32)), .val (.int (p1.toInt8.toInt32)), .val (.int (p2.toInt8.toInt32)), .val (.int (p3.toInt8.toInt32)), .val (.ref b1), .val (.ref bb), .val (.int (p5.toInt8.toInt32)), .val (.ref tx), .unset, .unset, .unset] [(.int z22_s0)]))
    refine Goes.go (fun _ kst => XS.istore XJ.here hx rfl (hb hby at_278) rfl (l' := #[.val (.int p0), .val (.int p1), .val (.int p2), .val (.int p3), .val (.int p4), .val (.int p5), .val (.int (Int32.ofNat nn)), .val (.int (Int32.ofNat na)), .val (.int (p0.toInt8.toInt32)), .val (.int (p1.toInt8.toInt32)), .val (.int (p2.toInt8.toInt32)), .val (.int (p3.toInt8.toInt32)), .val (.ref b1), .val (.ref bb), .val (.int (p5.toInt8.toInt32)), .val (.ref tx), .val (.int z22_s0), .unset, .unset]) rfl kst) ?_
    show Goes p e below s _ _ _ (TJ.setTop (mkF m 280 #[.val (.int p0), .val (.int p1), .val (.int p2), .val (.int p3), .val (.int p4), .val (.int p5), .val (.int (Int32.ofNat nn)), .val (.int (Int32.ofNat na)), .val (.int (p0.toInt8.toInt32)), .val (.int (p1.toInt8.toInt32)), .val (.int (p2.toInt8.toInt32)), .val (.int (p3.toInt8.toInt32)), .val (.ref b1), .val (.ref bb), .val (.int (p5.toInt8.toInt32)), .val (.ref tx), .val (.int z22_s0), .unset, .unset] []))
    refine Goes.go (fun _ kst => XS.aload XJ.here hx rfl (hb hby at_280) rfl rfl  kst) ?_
    show Goes p e below s _ _ _ (TJ.setTop (mkF m 282 #[.val (.int p0), .val (.int p1), .val (.int p2), .val (.int p3), .val (.int p4), .val (.int p5), .val (.int (Int32.ofNat nn)), .val (.int (Int32.ofNat na)), .val (.int (p0.toInt8.toInt32)), .val (.int (p1.toInt8.toInt32)), .val (.int (p2.toInt8.toInt32)), .val (.int (p3.toInt8.toInt32)), .val (.ref b1), .val (.ref bb), .val (.int (p5.toInt8.toInt32)), .val (.ref tx), .val (.int z22_s0), .unset, .unset] [(.ref bb)]))
    refine Goes.go (fun _ kst => XS.aload XJ.here hx rfl (hb hby at_282) rfl rfl  kst) ?_
    show Goes p e below s _ _ _ (TJ.setTop (mkF m 284 #[.val (.int p0), .val (.int p1), .val (.int p2), .val (.int p3), .val (.int p4), .val (.int p5), .val (.int (Int32.ofNat nn)), .val (.int (Int32.ofNat na)), .val (.int (p0.toInt8.toInt32)), .val (.int (p1.toInt8.toInt32)), .val (.int (p2.toInt8.toInt32)), .val (.int (p3.toInt8.toInt32)), .val (.ref b1), .val (.ref bb), .val (.int (p5.toInt8.toInt32)), .val (.ref tx), .val (.int z22_s0), .unset, .unset] [(.ref tx), (.ref bb)]))
    refine Goes.go (fun _ kst => XS.iload XJ.here hx rfl (hb hby at_284) rfl  kst) ?_
    show Goes p e below s _ _ _ (TJ.setTop (mkF m 286 #[.val (.int p0), .val (.int p1), .val (.int p2), .val (.int p3), .val (.int p4), .val (.int p5), .val (.int (Int32.ofNat nn)), .val (.int (Int32.ofNat na)), .val (.int (p0.toInt8.toInt32)), .val (.int (p1.toInt8.toInt32)), .val (.int (p2.toInt8.toInt32)), .val (.int (p3.toInt8.toInt32)), .val (.ref b1), .val (.ref bb), .val (.int (p5.toInt8.toInt32)), .val (.ref tx), .val (.int z22_s0), .unset, .unset] [(.int (Int32.ofNat na)), (.ref tx), (.ref bb)]))
    obtain ⟨_, _, ⟨T23, L23, k23, n23⟩, -, X23, ⟨Lc23, hQ23, l23, y23, z23⟩, st23⟩ := Jvm.LawKit.callS XJ hx (y := (⟨"org/cardprobe/Hex", "format", "([B[BI)I"⟩ : MethodName)) hown (mvT hZ (hw _ (List.mem_of_getElem? (i := 1) rfl))) (mvT hZ (hw _ (List.mem_of_getElem? (i := 2) rfl))) (mvT hZ (hw _ (List.mem_of_getElem? (i := 3) rfl))) (mvT hZ (hw _ (List.mem_of_getElem? (i := 4) rfl))) (by decide) (backOf (W := 0) (rm1 l Z a0 hw [] bb tx nn vv dg tt na hJ n0 ZJ AB13 gx AT15 (A_dg.ext (own_kx KJ)) (S_DG.ext (own_kx KJ)) nbx (Nat.ne_of_lt (Nat.lt_of_lt_of_le A_dg.lt sx)) EX (own_e2 hnn hna)) hZ (hw _ (List.mem_of_getElem? (i := 4) rfl)) (hw _ (List.mem_of_getElem? (i := 3) rfl)) (by decide) (by decide)) (g := (mkF m 286 #[.val (.int p0), .val (.int p1), .val (.int p2), .val (.int p3), .val (.int p4), .val (.int p5), .val (.int (Int32.ofNat nn)), .val (.int (Int32.ofNat na)), .val (.int (p0.toInt8.toInt32)), .val (.int (p1.toInt8.toInt32)), .val (.int (p2.toInt8.toInt32)), .val (.int (p3.toInt8.toInt32)), .val (.ref b1), .val (.ref bb), .val (.int (p5.toInt8.toInt32)), .val (.ref tx), .val (.int z22_s0), .unset, .unset] [(.int (Int32.ofNat na)), (.ref tx), (.ref bb)])) rfl (by rw [hml]; rfl) (argsL := [(.ref bb), (.ref tx), (.int (Int32.ofNat na))]) (rest := []) (lenOf pd_2 rfl) rfl (by show 2 * 0 + _ ≤ _; exact Nat.le_of_eq rfl) (hb hby at_286) (fun _ _ => ⟨rfl, eJ, (by decide : 3 + 0 ≤ _), (by decide : 23 + 0 ≤ _)⟩)
    dsimp only [Pt.U, Pt.locs, Pt.cells, Pt.slots] at X23 l23 y23 z23 st23 hQ23
    subst l23 y23 z23
    obtain ⟨h23, e23⟩ : ∃ z, T23.heap = z := ⟨_, rfl⟩
    rw [e23] at hQ23
    obtain ⟨rfl, N23q, Kq23, A23⟩ := hQ23
    have N23 := Fr.app NJ N23q
    have K23 := Keep.trans KJ Kq23 (allS (Or.inr sx) all0)
    have Z23 := Nat.le_trans ZJ Kq23.1
    refine Goes.go st23 ?_
    show Goes p e below s _ _ _ (T23.setTop (mkF m 289 #[.val (.int p0), .val (.int p1), .val (.int p2), .val (.int p3), .val (.int p4), .val (.int p5), .val (.int (Int32.ofNat nn)), .val (.int (Int32.ofNat na)), .val (.int (p0.toInt8.toInt32)), .val (.int (p1.toInt8.toInt32)), .val (.int (p2.toInt8.toInt32)), .val (.int (p3.toInt8.toInt32)), .val (.ref b1), .val (.ref bb), .val (.int (p5.toInt8.toInt32)), .val (.ref tx), .val (.int z22_s0), .unset, .unset] [(.int (Int32.ofNat (own_end nn 0 na)))]))
    refine Goes.go (fun _ kst => XS.istore X23.here hx rfl (hb hby at_289) rfl (l' := #[.val (.int p0), .val (.int p1), .val (.int p2), .val (.int p3), .val (.int p4), .val (.int p5), .val (.int (Int32.ofNat nn)), .val (.int (Int32.ofNat na)), .val (.int (p0.toInt8.toInt32)), .val (.int (p1.toInt8.toInt32)), .val (.int (p2.toInt8.toInt32)), .val (.int (p3.toInt8.toInt32)), .val (.ref b1), .val (.ref bb), .val (.int (p5.toInt8.toInt32)), .val (.ref tx), .val (.int z22_s0), .val (.int (Int32.ofNat (own_end nn 0 na))), .unset]) rfl kst) ?_
    show Goes p e below s _ _ _ (T23.setTop (mkF m 291 #[.val (.int p0), .val (.int p1), .val (.int p2), .val (.int p3), .val (.int p4), .val (.int p5), .val (.int (Int32.ofNat nn)), .val (.int (Int32.ofNat na)), .val (.int (p0.toInt8.toInt32)), .val (.int (p1.toInt8.toInt32)), .val (.int (p2.toInt8.toInt32)), .val (.int (p3.toInt8.toInt32)), .val (.ref b1), .val (.ref bb), .val (.int (p5.toInt8.toInt32)), .val (.ref tx), .val (.int z22_s0), .val (.int (Int32.ofNat (own_end nn 0 na))), .unset] []))
    refine Goes.go (fun _ kst => XS.iload X23.here hx rfl (hb hby at_291) rfl  kst) ?_
    show Goes p e below s _ _ _ (T23.setTop (mkF m 293 #[.val (.int p0), .val (.int p1), .val (.int p2), .val (.int p3), .val (.int p4), .val (.int p5), .val (.int (Int32.ofNat nn)), .val (.int (Int32.ofNat na)), .val (.int (p0.toInt8.toInt32)), .val (.int (p1.toInt8.toInt32)), .val (.int (p2.toInt8.toInt32)), .val (.int (p3.toInt8.toInt32)), .val (.ref b1), .val (.ref bb), .val (.int (p5.toInt8.toInt32)), .val (.ref tx), .val (.int z22_s0), .val (.int (Int32.ofNat (own_end nn 0 na))), .unset] [(.int (Int32.ofNat (own_end nn 0 na)))]))
    refine Goes.go (fun _ kst => XS.iload X23.here hx rfl (hb hby at_293) rfl  kst) ?_
    show Goes p e below s _ _ _ (T23.setTop (mkF m 295 #[.val (.int p0), .val (.int p1), .val (.int p2), .val (.int p3), .val (.int p4), .val (.int p5), .val (.int (Int32.ofNat nn)), .val (.int (Int32.ofNat na)), .val (.int (p0.toInt8.toInt32)), .val (.int (p1.toInt8.toInt32)), .val (.int (p2.toInt8.toInt32)), .val (.int (p3.toInt8.toInt32)), .val (.ref b1), .val (.ref bb), .val (.int (p5.toInt8.toInt32)), .val (.ref tx), .val (.int z22_s0), .val (.int (Int32.ofNat (own_end nn 0 na))), .unset] [(.int (Int32.ofNat na)), (.int (Int32.ofNat (own_end nn 0 na)))]))
    refine Goes.go (fun _ kst => XS.iload X23.here hx rfl (hb hby at_295) rfl  kst) ?_
    show Goes p e below s _ _ _ (T23.setTop (mkF m 297 #[.val (.int p0), .val (.int p1), .val (.int p2), .val (.int p3), .val (.int p4), .val (.int p5), .val (.int (Int32.ofNat nn)), .val (.int (Int32.ofNat na)), .val (.int (p0.toInt8.toInt32)), .val (.int (p1.toInt8.toInt32)), .val (.int (p2.toInt8.toInt32)), .val (.int (p3.toInt8.toInt32)), .val (.ref b1), .val (.ref bb), .val (.int (p5.toInt8.toInt32)), .val (.ref tx), .val (.int z22_s0), .val (.int (Int32.ofNat (own_end nn 0 na))), .unset] [(.int z22_s0), (.int (Int32.ofNat na)), (.int (Int32.ofNat (own_end nn 0 na)))]))
    refine Goes.go (fun _ kst => XS.iadd X23.here hx rfl (hb hby at_297) rfl kst) ?_
    show Goes p e below s _ _ _ (T23.setTop (mkF m 298 #[.val (.int p0), .val (.int p1), .val (.int p2), .val (.int p3), .val (.int p4), .val (.int p5), .val (.int (Int32.ofNat nn)), .val (.int (Int32.ofNat na)), .val (.int (p0.toInt8.toInt32)), .val (.int (p1.toInt8.toInt32)), .val (.int (p2.toInt8.toInt32)), .val (.int (p3.toInt8.toInt32)), .val (.ref b1), .val (.ref bb), .val (.int (p5.toInt8.toInt32)), .val (.ref tx), .val (.int z22_s0), .val (.int (Int32.ofNat (own_end nn 0 na))), .unset] [(.int ((Int32.ofNat na) + z22_s0)), (.int (Int32.ofNat (own_end nn 0 na)))]))
    have hc298_24 : (Int32.ofNat (own_end nn 0 na)) = ((Int32.ofNat na) + z22_s0) := by rw [hz22_s0]; exact own_e1 hnn hna
    refine Goes.go (fun _ kst => XS.icmpNo X23.here hx rfl (hb hby at_298) rfl (teq hc298_24).2 kst) ?_
    show Goes p e below s _ _ _ (T23.setTop (mkF m 301 #[.val (.int p0), .val (.int p1), .val (.int p2), .val (.int p3), .val (.int p4), .val (.int p5), .val (.int (Int32.ofNat nn)), .val (.int (Int32.ofNat na)), .val (.int (p0.toInt8.toInt32)), .val (.int (p1.toInt8.toInt32)), .val (.int (p2.toInt8.toInt32)), .val (.int (p3.toInt8.toInt32)), .val (.ref b1), .val (.ref bb), .val (.int (p5.toInt8.toInt32)), .val (.ref tx), .val (.int z22_s0), .val (.int (Int32.ofNat (own_end nn 0 na))), .unset] []))
    refine Goes.go (fun _ kst => XS.iconst X23.here hx rfl (hb hby at_301) kst) ?_
    show Goes p e below s _ _ _ (T23.setTop (mkF m 302 #[.val (.int p0), .val (.int p1), .val (.int p2), .val (.int p3), .val (.int p4), .val (.int p5), .val (.int (Int32.ofNat nn)), .val (.int (Int32.ofNat na)), .val (.int (p0.toInt8.toInt32)), .val (.int (p1.toInt8.toInt32)), .val (.int (p2.toInt8.toInt32)), .val (.int (p3.toInt8.toInt32)), .val (.ref b1), .val (.ref bb), .val (.int (p5.toInt8.toInt32)), .val (.ref tx), .val (.int z22_s0), .val (.int (Int32.ofNat (own_end nn 0 na))), .unset] [(.int (1 : Int32))]))
    refine Goes.go (fun _ kst => XS.goto X23.here hx rfl (pc0 := 302) (pc' := 306) rfl (hb hby at_302) (by decide) (by decide) kst) ?_
    show Goes p e below s _ _ _ (T23.setTop (mkF m 306 #[.val (.int p0), .val (.int p1), .val (.int p2), .val (.int p3), .val (.int p4), .val (.int p5), .val (.int (Int32.ofNat nn)), .val (.int (Int32.ofNat na)), .val (.int (p0.toInt8.toInt32)), .val (.int (p1.toInt8.toInt32)), .val (.int (p2.toInt8.toInt32)), .val (.int (p3.toInt8.toInt32)), .val (.ref b1), .val (.ref bb), .val (.int (p5.toInt8.toInt32)), .val (.ref tx), .val (.int z22_s0), .val (.int (Int32.ofNat (own_end nn 0 na))), .unset] [(.int (1 : Int32))]))
    refine Goes.go (fun _ kst => XS.istore X23.here hx rfl (hb hby at_306) rfl (l' := #[.val (.int p0), .val (.int p1), .val (.int p2), .val (.int p3), .val (.int p4), .val (.int p5), .val (.int (Int32.ofNat nn)), .val (.int (Int32.ofNat na)), .val (.int (p0.toInt8.toInt32)), .val (.int (p1.toInt8.toInt32)), .val (.int (p2.toInt8.toInt32)), .val (.int (p3.toInt8.toInt32)), .val (.ref b1), .val (.ref bb), .val (.int (p5.toInt8.toInt32)), .val (.ref tx), .val (.int z22_s0), .val (.int (Int32.ofNat (own_end nn 0 na))), .val (.int (1 : Int32))]) rfl kst) ?_
    exact J308 _ _ _ _ tt ht X23 e23 N23 Z23 K23 A23 (AV12.keep Kq23 (ninS nvx nin0))
  have J168 : ∀ (bb : Addr) {TJ : State} {lj : List Loc} {hJ : Heap} (XJ : Stand p l e room_1 s m #[(.int p0), (.int p1), (.int p2), (.int p3), (.int p4), (.int p5)] below meth c TJ lj 2 8) (eJ : TJ.heap = hJ) (NJ : Fr n0 lj) (ZJ : n0 ≤ hJ.size) (KJ : Keep h0 hJ []) (AB13 : IA Z hJ bb .byte nn vv) (AV12 : IA Z hJ b1 .byte 4 vv), Goes p e below s (Q0 n0) room_1.cells room_1.slots (TJ.setTop (mkF m 168 #[.val (.int p0), .val (.int p1), .val (.int p2), .val (.int p3), .val (.int p4), .val (.int p5), .val (.int (Int32.ofNat nn)), .val (.int (Int32.ofNat na)), .val (.int (p0.toInt8.toInt32)), .val (.int (p1.toInt8.toInt32)), .val (.int (p2.toInt8.toInt32)), .val (.int (p3.toInt8.toInt32)), .val (.ref b1), .val (.ref bb), .unset, .unset, .unset, .unset, .unset] [])) := by
    intro bb TJ lj hJ XJ eJ NJ ZJ KJ AB13 AV12
    show Goes p e below s _ _ _ (TJ.setTop (mkF m 168 #[.val (.int p0), .val (.int p1), .val (.int p2), .val (.int p3), .val (.int p4), .val (.int p5), .val (.int (Int32.ofNat nn)), .val (.int (Int32.ofNat na)), .val (.int (p0.toInt8.toInt32)), .val (.int (p1.toInt8.toInt32)), .val (.int (p2.toInt8.toInt32)), .val (.int (p3.toInt8.toInt32)), .val (.ref b1), .val (.ref bb), .unset, .unset, .unset, .unset, .unset] []))
    refine Goes.go (fun _ kst => XS.iload XJ.here hx rfl (hb hby at_168) rfl  kst) ?_
    show Goes p e below s _ _ _ (TJ.setTop (mkF m 170 #[.val (.int p0), .val (.int p1), .val (.int p2), .val (.int p3), .val (.int p4), .val (.int p5), .val (.int (Int32.ofNat nn)), .val (.int (Int32.ofNat na)), .val (.int (p0.toInt8.toInt32)), .val (.int (p1.toInt8.toInt32)), .val (.int (p2.toInt8.toInt32)), .val (.int (p3.toInt8.toInt32)), .val (.ref b1), .val (.ref bb), .unset, .unset, .unset, .unset, .unset] [(.int p5)]))
    refine Goes.go (fun _ kst => XS.i2b XJ.here hx rfl (hb hby at_170) rfl kst) ?_
    show Goes p e below s _ _ _ (TJ.setTop (mkF m 171 #[.val (.int p0), .val (.int p1), .val (.int p2), .val (.int p3), .val (.int p4), .val (.int p5), .val (.int (Int32.ofNat nn)), .val (.int (Int32.ofNat na)), .val (.int (p0.toInt8.toInt32)), .val (.int (p1.toInt8.toInt32)), .val (.int (p2.toInt8.toInt32)), .val (.int (p3.toInt8.toInt32)), .val (.ref b1), .val (.ref bb), .unset, .unset, .unset, .unset, .unset] [(.int (p5.toInt8.toInt32))]))
    refine Goes.go (fun _ kst => XS.istore XJ.here hx rfl (hb hby at_171) rfl (l' := #[.val (.int p0), .val (.int p1), .val (.int p2), .val (.int p3), .val (.int p4), .val (.int p5), .val (.int (Int32.ofNat nn)), .val (.int (Int32.ofNat na)), .val (.int (p0.toInt8.toInt32)), .val (.int (p1.toInt8.toInt32)), .val (.int (p2.toInt8.toInt32)), .val (.int (p3.toInt8.toInt32)), .val (.ref b1), .val (.ref bb), .val (.int (p5.toInt8.toInt32)), .unset, .unset, .unset, .unset]) rfl kst) ?_
    show Goes p e below s _ _ _ (TJ.setTop (mkF m 173 #[.val (.int p0), .val (.int p1), .val (.int p2), .val (.int p3), .val (.int p4), .val (.int p5), .val (.int (Int32.ofNat nn)), .val (.int (Int32.ofNat na)), .val (.int (p0.toInt8.toInt32)), .val (.int (p1.toInt8.toInt32)), .val (.int (p2.toInt8.toInt32)), .val (.int (p3.toInt8.toInt32)), .val (.ref b1), .val (.ref bb), .val (.int (p5.toInt8.toInt32)), .unset, .unset, .unset, .unset] []))
    refine Goes.go (fun _ kst => XS.bipush XJ.here hx rfl (hb hby at_173) kst) ?_
    show Goes p e below s _ _ _ (TJ.setTop (mkF m 175 #[.val (.int p0), .val (.int p1), .val (.int p2), .val (.int p3), .val (.int p4), .val (.int p5), .val (.int (Int32.ofNat nn)), .val (.int (Int32.ofNat na)), .val (.int (p0.toInt8.toInt32)), .val (.int (p1.toInt8.toInt32)), .val (.int (p2.toInt8.toInt32)), .val (.int (p3.toInt8.toInt32)), .val (.ref b1), .val (.ref bb), .val (.int (p5.toInt8.toInt32)), .unset, .unset, .unset, .unset] [(.int (15 : Int32))]))
    obtain ⟨T25, h25, X25, e25, E25, A25, EA25, st25⟩ := own_newA XJ hx hZ (hw _ (List.mem_of_getElem? (i := 0) rfl)) eJ (g := (mkF m 175 #[.val (.int p0), .val (.int p1), .val (.int p2), .val (.int p3), .val (.int p4), .val (.int p5), .val (.int (Int32.ofNat nn)), .val (.int (Int32.ofNat na)), .val (.int (p0.toInt8.toInt32)), .val (.int (p1.toInt8.toInt32)), .val (.int (p2.toInt8.toInt32)), .val (.int (p3.toInt8.toInt32)), .val (.ref b1), .val (.ref bb), .val (.int (p5.toInt8.toInt32)), .unset, .unset, .unset, .unset] [(.int (15 : Int32))])) rfl (hb hby at_175) rfl (n := 15) rfl (cap := 15) (Nat.le_refl _) (by decide) (by decide) (by decide) (by decide) (by decide) (by decide : _ = "[B")
    obtain ⟨b25, g25⟩ : ∃ z, z = hJ.size := ⟨_, rfl⟩
    rw [← g25] at A25 EA25 st25
    have gb25 : n0 ≤ b25 := Nat.le_trans ZJ (Nat.le_of_eq g25.symm)
    have sb25 : h0.size ≤ b25 := Nat.le_trans KJ.1 (Nat.le_of_eq g25.symm)
    have Z25 := Nat.le_trans ZJ E25.1
    have K25 := Keep.ext KJ E25
    refine Goes.go st25 ?_
    show Goes p e below s _ _ _ (T25.setTop (mkF m 177 #[.val (.int p0), .val (.int p1), .val (.int p2), .val (.int p3), .val (.int p4), .val (.int p5), .val (.int (Int32.ofNat nn)), .val (.int (Int32.ofNat na)), .val (.int (p0.toInt8.toInt32)), .val (.int (p1.toInt8.toInt32)), .val (.int (p2.toInt8.toInt32)), .val (.int (p3.toInt8.toInt32)), .val (.ref b1), .val (.ref bb), .val (.int (p5.toInt8.toInt32)), .unset, .unset, .unset, .unset] [(.ref b25)]))
    refine Goes.go (fun _ kst => XS.dup X25.here hx rfl (hb hby at_177) rfl rfl kst) ?_
    show Goes p e below s _ _ _ (T25.setTop (mkF m 178 #[.val (.int p0), .val (.int p1), .val (.int p2), .val (.int p3), .val (.int p4), .val (.int p5), .val (.int (Int32.ofNat nn)), .val (.int (Int32.ofNat na)), .val (.int (p0.toInt8.toInt32)), .val (.int (p1.toInt8.toInt32)), .val (.int (p2.toInt8.toInt32)), .val (.int (p3.toInt8.toInt32)), .val (.ref b1), .val (.ref bb), .val (.int (p5.toInt8.toInt32)), .unset, .unset, .unset, .unset] [(.ref b25), (.ref b25)]))
    refine Goes.go (fun _ kst => XS.iconst X25.here hx rfl (hb hby at_178) kst) ?_
    show Goes p e below s _ _ _ (T25.setTop (mkF m 179 #[.val (.int p0), .val (.int p1), .val (.int p2), .val (.int p3), .val (.int p4), .val (.int p5), .val (.int (Int32.ofNat nn)), .val (.int (Int32.ofNat na)), .val (.int (p0.toInt8.toInt32)), .val (.int (p1.toInt8.toInt32)), .val (.int (p2.toInt8.toInt32)), .val (.int (p3.toInt8.toInt32)), .val (.ref b1), .val (.ref bb), .val (.int (p5.toInt8.toInt32)), .unset, .unset, .unset, .unset] [(.int (0 : Int32)), (.ref b25), (.ref b25)]))
    refine Goes.go (fun _ kst => XS.iload X25.here hx rfl (hb hby at_179) rfl  kst) ?_
    show Goes p e below s _ _ _ (T25.setTop (mkF m 181 #[.val (.int p0), .val (.int p1), .val (.int p2), .val (.int p3), .val (.int p4), .val (.int p5), .val (.int (Int32.ofNat nn)), .val (.int (Int32.ofNat na)), .val (.int (p0.toInt8.toInt32)), .val (.int (p1.toInt8.toInt32)), .val (.int (p2.toInt8.toInt32)), .val (.int (p3.toInt8.toInt32)), .val (.ref b1), .val (.ref bb), .val (.int (p5.toInt8.toInt32)), .unset, .unset, .unset, .unset] [(.int (p5.toInt8.toInt32)), (.int (0 : Int32)), (.ref b25), (.ref b25)]))
    obtain ⟨T26, h26, X26, e26, W26, A26, st26⟩ := own_stB X25 hx hZ e25 A25 (i := 0) rfl (by decide) (g := (mkF m 181 #[.val (.int p0), .val (.int p1), .val (.int p2), .val (.int p3), .val (.int p4), .val (.int p5), .val (.int (Int32.ofNat nn)), .val (.int (Int32.ofNat na)), .val (.int (p0.toInt8.toInt32)), .val (.int (p1.toInt8.toInt32)), .val (.int (p2.toInt8.toInt32)), .val (.int (p3.toInt8.toInt32)), .val (.ref b1), .val (.ref bb), .val (.int (p5.toInt8.toInt32)), .unset, .unset, .unset, .unset] [(.int (p5.toInt8.toInt32)), (.int (0 : Int32)), (.ref b25), (.ref b25)])) rfl rfl (hb hby at_181)
    have N26 := Fr.snoc X26 NJ gb25
    have Z26 := Nat.le_trans Z25 (Keep.of_wr W26).1
    have K26 := Keep.wr K25 W26 (Or.inr sb25)
    refine Goes.go st26 ?_
    show Goes p e below s _ _ _ (T26.setTop (mkF m 182 #[.val (.int p0), .val (.int p1), .val (.int p2), .val (.int p3), .val (.int p4), .val (.int p5), .val (.int (Int32.ofNat nn)), .val (.int (Int32.ofNat na)), .val (.int (p0.toInt8.toInt32)), .val (.int (p1.toInt8.toInt32)), .val (.int (p2.toInt8.toInt32)), .val (.int (p3.toInt8.toInt32)), .val (.ref b1), .val (.ref bb), .val (.int (p5.toInt8.toInt32)), .unset, .unset, .unset, .unset] [(.ref b25)]))
    refine Goes.go (fun _ kst => XS.dup X26.here hx rfl (hb hby at_182) rfl rfl kst) ?_
    show Goes p e below s _ _ _ (T26.setTop (mkF m 183 #[.val (.int p0), .val (.int p1), .val (.int p2), .val (.int p3), .val (.int p4), .val (.int p5), .val (.int (Int32.ofNat nn)), .val (.int (Int32.ofNat na)), .val (.int (p0.toInt8.toInt32)), .val (.int (p1.toInt8.toInt32)), .val (.int (p2.toInt8.toInt32)), .val (.int (p3.toInt8.toInt32)), .val (.ref b1), .val (.ref bb), .val (.int (p5.toInt8.toInt32)), .unset, .unset, .unset, .unset] [(.ref b25), (.ref b25)]))
    refine Goes.go (fun _ kst => XS.iconst X26.here hx rfl (hb hby at_183) kst) ?_
    show Goes p e below s _ _ _ (T26.setTop (mkF m 184 #[.val (.int p0), .val (.int p1), .val (.int p2), .val (.int p3), .val (.int p4), .val (.int p5), .val (.int (Int32.ofNat nn)), .val (.int (Int32.ofNat na)), .val (.int (p0.toInt8.toInt32)), .val (.int (p1.toInt8.toInt32)), .val (.int (p2.toInt8.toInt32)), .val (.int (p3.toInt8.toInt32)), .val (.ref b1), .val (.ref bb), .val (.int (p5.toInt8.toInt32)), .unset, .unset, .unset, .unset] [(.int (1 : Int32)), (.ref b25), (.ref b25)]))
    refine Goes.go (fun _ kst => XS.iload X26.here hx rfl (hb hby at_184) rfl  kst) ?_
    show Goes p e below s _ _ _ (T26.setTop (mkF m 186 #[.val (.int p0), .val (.int p1), .val (.int p2), .val (.int p3), .val (.int p4), .val (.int p5), .val (.int (Int32.ofNat nn)), .val (.int (Int32.ofNat na)), .val (.int (p0.toInt8.toInt32)), .val (.int (p1.toInt8.toInt32)), .val (.int (p2.toInt8.toInt32)), .val (.int (p3.toInt8.toInt32)), .val (.ref b1), .val (.ref bb), .val (.int (p5.toInt8.toInt32)), .unset, .unset, .unset, .unset] [(.int (p5.toInt8.toInt32)), (.int (1 : Int32)), (.ref b25), (.ref b25)]))
    obtain ⟨T27, h27, X27, e27, W27, A27, st27⟩ := own_stB X26 hx hZ e26 A26 (i := 1) rfl (by decide) (g := (mkF m 186 #[.val (.int p0), .val (.int p1), .val (.int p2), .val (.int p3), .val (.int p4), .val (.int p5), .val (.int (Int32.ofNat nn)), .val (.int (Int32.ofNat na)), .val (.int (p0.toInt8.toInt32)), .val (.int (p1.toInt8.toInt32)), .val (.int (p2.toInt8.toInt32)), .val (.int (p3.toInt8.toInt32)), .val (.ref b1), .val (.ref bb), .val (.int (p5.toInt8.toInt32)), .unset, .unset, .unset, .unset] [(.int (p5.toInt8.toInt32)), (.int (1 : Int32)), (.ref b25), (.ref b25)])) rfl rfl (hb hby at_186)
    have N27 := Fr.snoc X27 N26 gb25
    have Z27 := Nat.le_trans Z26 (Keep.of_wr W27).1
    have K27 := Keep.wr K26 W27 (Or.inr sb25)
    refine Goes.go st27 ?_
    show Goes p e below s _ _ _ (T27.setTop (mkF m 187 #[.val (.int p0), .val (.int p1), .val (.int p2), .val (.int p3), .val (.int p4), .val (.int p5), .val (.int (Int32.ofNat nn)), .val (.int (Int32.ofNat na)), .val (.int (p0.toInt8.toInt32)), .val (.int (p1.toInt8.toInt32)), .val (.int (p2.toInt8.toInt32)), .val (.int (p3.toInt8.toInt32)), .val (.ref b1), .val (.ref bb), .val (.int (p5.toInt8.toInt32)), .unset, .unset, .unset, .unset] [(.ref b25)]))
    refine Goes.go (fun _ kst => XS.dup X27.here hx rfl (hb hby at_187) rfl rfl kst) ?_
    show Goes p e below s _ _ _ (T27.setTop (mkF m 188 #[.val (.int p0), .val (.int p1), .val (.int p2), .val (.int p3), .val (.int p4), .val (.int p5), .val (.int (Int32.ofNat nn)), .val (.int (Int32.ofNat na)), .val (.int (p0.toInt8.toInt32)), .val (.int (p1.toInt8.toInt32)), .val (.int (p2.toInt8.toInt32)), .val (.int (p3.toInt8.toInt32)), .val (.ref b1), .val (.ref bb), .val (.int (p5.toInt8.toInt32)), .unset, .unset, .unset, .unset] [(.ref b25), (.ref b25)]))
    refine Goes.go (fun _ kst => XS.iconst X27.here hx rfl (hb hby at_188) kst) ?_
    show Goes p e below s _ _ _ (T27.setTop (mkF m 189 #[.val (.int p0), .val (.int p1), .val (.int p2), .val (.int p3), .val (.int p4), .val (.int p5), .val (.int (Int32.ofNat nn)), .val (.int (Int32.ofNat na)), .val (.int (p0.toInt8.toInt32)), .val (.int (p1.toInt8.toInt32)), .val (.int (p2.toInt8.toInt32)), .val (.int (p3.toInt8.toInt32)), .val (.ref b1), .val (.ref bb), .val (.int (p5.toInt8.toInt32)), .unset, .unset, .unset, .unset] [(.int (2 : Int32)), (.ref b25), (.ref b25)]))
    refine Goes.go (fun _ kst => XS.iload X27.here hx rfl (hb hby at_189) rfl  kst) ?_
    show Goes p e below s _ _ _ (T27.setTop (mkF m 191 #[.val (.int p0), .val (.int p1), .val (.int p2), .val (.int p3), .val (.int p4), .val (.int p5), .val (.int (Int32.ofNat nn)), .val (.int (Int32.ofNat na)), .val (.int (p0.toInt8.toInt32)), .val (.int (p1.toInt8.toInt32)), .val (.int (p2.toInt8.toInt32)), .val (.int (p3.toInt8.toInt32)), .val (.ref b1), .val (.ref bb), .val (.int (p5.toInt8.toInt32)), .unset, .unset, .unset, .unset] [(.int (p5.toInt8.toInt32)), (.int (2 : Int32)), (.ref b25), (.ref b25)]))
    obtain ⟨T28, h28, X28, e28, W28, A28, st28⟩ := own_stB X27 hx hZ e27 A27 (i := 2) rfl (by decide) (g := (mkF m 191 #[.val (.int p0), .val (.int p1), .val (.int p2), .val (.int p3), .val (.int p4), .val (.int p5), .val (.int (Int32.ofNat nn)), .val (.int (Int32.ofNat na)), .val (.int (p0.toInt8.toInt32)), .val (.int (p1.toInt8.toInt32)), .val (.int (p2.toInt8.toInt32)), .val (.int (p3.toInt8.toInt32)), .val (.ref b1), .val (.ref bb), .val (.int (p5.toInt8.toInt32)), .unset, .unset, .unset, .unset] [(.int (p5.toInt8.toInt32)), (.int (2 : Int32)), (.ref b25), (.ref b25)])) rfl rfl (hb hby at_191)
    have N28 := Fr.snoc X28 N27 gb25
    have Z28 := Nat.le_trans Z27 (Keep.of_wr W28).1
    have K28 := Keep.wr K27 W28 (Or.inr sb25)
    refine Goes.go st28 ?_
    show Goes p e below s _ _ _ (T28.setTop (mkF m 192 #[.val (.int p0), .val (.int p1), .val (.int p2), .val (.int p3), .val (.int p4), .val (.int p5), .val (.int (Int32.ofNat nn)), .val (.int (Int32.ofNat na)), .val (.int (p0.toInt8.toInt32)), .val (.int (p1.toInt8.toInt32)), .val (.int (p2.toInt8.toInt32)), .val (.int (p3.toInt8.toInt32)), .val (.ref b1), .val (.ref bb), .val (.int (p5.toInt8.toInt32)), .unset, .unset, .unset, .unset] [(.ref b25)]))
    refine Goes.go (fun _ kst => XS.dup X28.here hx rfl (hb hby at_192) rfl rfl kst) ?_
    show Goes p e below s _ _ _ (T28.setTop (mkF m 193 #[.val (.int p0), .val (.int p1), .val (.int p2), .val (.int p3), .val (.int p4), .val (.int p5), .val (.int (Int32.ofNat nn)), .val (.int (Int32.ofNat na)), .val (.int (p0.toInt8.toInt32)), .val (.int (p1.toInt8.toInt32)), .val (.int (p2.toInt8.toInt32)), .val (.int (p3.toInt8.toInt32)), .val (.ref b1), .val (.ref bb), .val (.int (p5.toInt8.toInt32)), .unset, .unset, .unset, .unset] [(.ref b25), (.ref b25)]))
    refine Goes.go (fun _ kst => XS.iconst X28.here hx rfl (hb hby at_193) kst) ?_
    show Goes p e below s _ _ _ (T28.setTop (mkF m 194 #[.val (.int p0), .val (.int p1), .val (.int p2), .val (.int p3), .val (.int p4), .val (.int p5), .val (.int (Int32.ofNat nn)), .val (.int (Int32.ofNat na)), .val (.int (p0.toInt8.toInt32)), .val (.int (p1.toInt8.toInt32)), .val (.int (p2.toInt8.toInt32)), .val (.int (p3.toInt8.toInt32)), .val (.ref b1), .val (.ref bb), .val (.int (p5.toInt8.toInt32)), .unset, .unset, .unset, .unset] [(.int (3 : Int32)), (.ref b25), (.ref b25)]))
    refine Goes.go (fun _ kst => XS.iload X28.here hx rfl (hb hby at_194) rfl  kst) ?_
    show Goes p e below s _ _ _ (T28.setTop (mkF m 196 #[.val (.int p0), .val (.int p1), .val (.int p2), .val (.int p3), .val (.int p4), .val (.int p5), .val (.int (Int32.ofNat nn)), .val (.int (Int32.ofNat na)), .val (.int (p0.toInt8.toInt32)), .val (.int (p1.toInt8.toInt32)), .val (.int (p2.toInt8.toInt32)), .val (.int (p3.toInt8.toInt32)), .val (.ref b1), .val (.ref bb), .val (.int (p5.toInt8.toInt32)), .unset, .unset, .unset, .unset] [(.int (p5.toInt8.toInt32)), (.int (3 : Int32)), (.ref b25), (.ref b25)]))
    obtain ⟨T29, h29, X29, e29, W29, A29, st29⟩ := own_stB X28 hx hZ e28 A28 (i := 3) rfl (by decide) (g := (mkF m 196 #[.val (.int p0), .val (.int p1), .val (.int p2), .val (.int p3), .val (.int p4), .val (.int p5), .val (.int (Int32.ofNat nn)), .val (.int (Int32.ofNat na)), .val (.int (p0.toInt8.toInt32)), .val (.int (p1.toInt8.toInt32)), .val (.int (p2.toInt8.toInt32)), .val (.int (p3.toInt8.toInt32)), .val (.ref b1), .val (.ref bb), .val (.int (p5.toInt8.toInt32)), .unset, .unset, .unset, .unset] [(.int (p5.toInt8.toInt32)), (.int (3 : Int32)), (.ref b25), (.ref b25)])) rfl rfl (hb hby at_196)
    have N29 := Fr.snoc X29 N28 gb25
    have Z29 := Nat.le_trans Z28 (Keep.of_wr W29).1
    have K29 := Keep.wr K28 W29 (Or.inr sb25)
    refine Goes.go st29 ?_
    show Goes p e below s _ _ _ (T29.setTop (mkF m 197 #[.val (.int p0), .val (.int p1), .val (.int p2), .val (.int p3), .val (.int p4), .val (.int p5), .val (.int (Int32.ofNat nn)), .val (.int (Int32.ofNat na)), .val (.int (p0.toInt8.toInt32)), .val (.int (p1.toInt8.toInt32)), .val (.int (p2.toInt8.toInt32)), .val (.int (p3.toInt8.toInt32)), .val (.ref b1), .val (.ref bb), .val (.int (p5.toInt8.toInt32)), .unset, .unset, .unset, .unset] [(.ref b25)]))
    refine Goes.go (fun _ kst => XS.dup X29.here hx rfl (hb hby at_197) rfl rfl kst) ?_
    show Goes p e below s _ _ _ (T29.setTop (mkF m 198 #[.val (.int p0), .val (.int p1), .val (.int p2), .val (.int p3), .val (.int p4), .val (.int p5), .val (.int (Int32.ofNat nn)), .val (.int (Int32.ofNat na)), .val (.int (p0.toInt8.toInt32)), .val (.int (p1.toInt8.toInt32)), .val (.int (p2.toInt8.toInt32)), .val (.int (p3.toInt8.toInt32)), .val (.ref b1), .val (.ref bb), .val (.int (p5.toInt8.toInt32)), .unset, .unset, .unset, .unset] [(.ref b25), (.ref b25)]))
    refine Goes.go (fun _ kst => XS.iconst X29.here hx rfl (hb hby at_198) kst) ?_
    show Goes p e below s _ _ _ (T29.setTop (mkF m 199 #[.val (.int p0), .val (.int p1), .val (.int p2), .val (.int p3), .val (.int p4), .val (.int p5), .val (.int (Int32.ofNat nn)), .val (.int (Int32.ofNat na)), .val (.int (p0.toInt8.toInt32)), .val (.int (p1.toInt8.toInt32)), .val (.int (p2.toInt8.toInt32)), .val (.int (p3.toInt8.toInt32)), .val (.ref b1), .val (.ref bb), .val (.int (p5.toInt8.toInt32)), .unset, .unset, .unset, .unset] [(.int (4 : Int32)), (.ref b25), (.ref b25)]))
    refine Goes.go (fun _ kst => XS.iload X29.here hx rfl (hb hby at_199) rfl  kst) ?_
    show Goes p e below s _ _ _ (T29.setTop (mkF m 201 #[.val (.int p0), .val (.int p1), .val (.int p2), .val (.int p3), .val (.int p4), .val (.int p5), .val (.int (Int32.ofNat nn)), .val (.int (Int32.ofNat na)), .val (.int (p0.toInt8.toInt32)), .val (.int (p1.toInt8.toInt32)), .val (.int (p2.toInt8.toInt32)), .val (.int (p3.toInt8.toInt32)), .val (.ref b1), .val (.ref bb), .val (.int (p5.toInt8.toInt32)), .unset, .unset, .unset, .unset] [(.int (p5.toInt8.toInt32)), (.int (4 : Int32)), (.ref b25), (.ref b25)]))
    obtain ⟨T30, h30, X30, e30, W30, A30, st30⟩ := own_stB X29 hx hZ e29 A29 (i := 4) rfl (by decide) (g := (mkF m 201 #[.val (.int p0), .val (.int p1), .val (.int p2), .val (.int p3), .val (.int p4), .val (.int p5), .val (.int (Int32.ofNat nn)), .val (.int (Int32.ofNat na)), .val (.int (p0.toInt8.toInt32)), .val (.int (p1.toInt8.toInt32)), .val (.int (p2.toInt8.toInt32)), .val (.int (p3.toInt8.toInt32)), .val (.ref b1), .val (.ref bb), .val (.int (p5.toInt8.toInt32)), .unset, .unset, .unset, .unset] [(.int (p5.toInt8.toInt32)), (.int (4 : Int32)), (.ref b25), (.ref b25)])) rfl rfl (hb hby at_201)
    have N30 := Fr.snoc X30 N29 gb25
    have Z30 := Nat.le_trans Z29 (Keep.of_wr W30).1
    have K30 := Keep.wr K29 W30 (Or.inr sb25)
    refine Goes.go st30 ?_
    show Goes p e below s _ _ _ (T30.setTop (mkF m 202 #[.val (.int p0), .val (.int p1), .val (.int p2), .val (.int p3), .val (.int p4), .val (.int p5), .val (.int (Int32.ofNat nn)), .val (.int (Int32.ofNat na)), .val (.int (p0.toInt8.toInt32)), .val (.int (p1.toInt8.toInt32)), .val (.int (p2.toInt8.toInt32)), .val (.int (p3.toInt8.toInt32)), .val (.ref b1), .val (.ref bb), .val (.int (p5.toInt8.toInt32)), .unset, .unset, .unset, .unset] [(.ref b25)]))
    refine Goes.go (fun _ kst => XS.dup X30.here hx rfl (hb hby at_202) rfl rfl kst) ?_
    show Goes p e below s _ _ _ (T30.setTop (mkF m 203 #[.val (.int p0), .val (.int p1), .val (.int p2), .val (.int p3), .val (.int p4), .val (.int p5), .val (.int (Int32.ofNat nn)), .val (.int (Int32.ofNat na)), .val (.int (p0.toInt8.toInt32)), .val (.int (p1.toInt8.toInt32)), .val (.int (p2.toInt8.toInt32)), .val (.int (p3.toInt8.toInt32)), .val (.ref b1), .val (.ref bb), .val (.int (p5.toInt8.toInt32)), .unset, .unset, .unset, .unset] [(.ref b25), (.ref b25)]))
    refine Goes.go (fun _ kst => XS.iconst X30.here hx rfl (hb hby at_203) kst) ?_
    show Goes p e below s _ _ _ (T30.setTop (mkF m 204 #[.val (.int p0), .val (.int p1), .val (.int p2), .val (.int p3), .val (.int p4), .val (.int p5), .val (.int (Int32.ofNat nn)), .val (.int (Int32.ofNat na)), .val (.int (p0.toInt8.toInt32)), .val (.int (p1.toInt8.toInt32)), .val (.int (p2.toInt8.toInt32)), .val (.int (p3.toInt8.toInt32)), .val (.ref b1), .val (.ref bb), .val (.int (p5.toInt8.toInt32)), .unset, .unset, .unset, .unset] [(.int (5 : Int32)), (.ref b25), (.ref b25)]))
    refine Goes.go (fun _ kst => XS.iload X30.here hx rfl (hb hby at_204) rfl  kst) ?_
    show Goes p e below s _ _ _ (T30.setTop (mkF m 206 #[.val (.int p0), .val (.int p1), .val (.int p2), .val (.int p3), .val (.int p4), .val (.int p5), .val (.int (Int32.ofNat nn)), .val (.int (Int32.ofNat na)), .val (.int (p0.toInt8.toInt32)), .val (.int (p1.toInt8.toInt32)), .val (.int (p2.toInt8.toInt32)), .val (.int (p3.toInt8.toInt32)), .val (.ref b1), .val (.ref bb), .val (.int (p5.toInt8.toInt32)), .unset, .unset, .unset, .unset] [(.int (p5.toInt8.toInt32)), (.int (5 : Int32)), (.ref b25), (.ref b25)]))
    obtain ⟨T31, h31, X31, e31, W31, A31, st31⟩ := own_stB X30 hx hZ e30 A30 (i := 5) rfl (by decide) (g := (mkF m 206 #[.val (.int p0), .val (.int p1), .val (.int p2), .val (.int p3), .val (.int p4), .val (.int p5), .val (.int (Int32.ofNat nn)), .val (.int (Int32.ofNat na)), .val (.int (p0.toInt8.toInt32)), .val (.int (p1.toInt8.toInt32)), .val (.int (p2.toInt8.toInt32)), .val (.int (p3.toInt8.toInt32)), .val (.ref b1), .val (.ref bb), .val (.int (p5.toInt8.toInt32)), .unset, .unset, .unset, .unset] [(.int (p5.toInt8.toInt32)), (.int (5 : Int32)), (.ref b25), (.ref b25)])) rfl rfl (hb hby at_206)
    have N31 := Fr.snoc X31 N30 gb25
    have Z31 := Nat.le_trans Z30 (Keep.of_wr W31).1
    have K31 := Keep.wr K30 W31 (Or.inr sb25)
    refine Goes.go st31 ?_
    show Goes p e below s _ _ _ (T31.setTop (mkF m 207 #[.val (.int p0), .val (.int p1), .val (.int p2), .val (.int p3), .val (.int p4), .val (.int p5), .val (.int (Int32.ofNat nn)), .val (.int (Int32.ofNat na)), .val (.int (p0.toInt8.toInt32)), .val (.int (p1.toInt8.toInt32)), .val (.int (p2.toInt8.toInt32)), .val (.int (p3.toInt8.toInt32)), .val (.ref b1), .val (.ref bb), .val (.int (p5.toInt8.toInt32)), .unset, .unset, .unset, .unset] [(.ref b25)]))
    refine Goes.go (fun _ kst => XS.dup X31.here hx rfl (hb hby at_207) rfl rfl kst) ?_
    show Goes p e below s _ _ _ (T31.setTop (mkF m 208 #[.val (.int p0), .val (.int p1), .val (.int p2), .val (.int p3), .val (.int p4), .val (.int p5), .val (.int (Int32.ofNat nn)), .val (.int (Int32.ofNat na)), .val (.int (p0.toInt8.toInt32)), .val (.int (p1.toInt8.toInt32)), .val (.int (p2.toInt8.toInt32)), .val (.int (p3.toInt8.toInt32)), .val (.ref b1), .val (.ref bb), .val (.int (p5.toInt8.toInt32)), .unset, .unset, .unset, .unset] [(.ref b25), (.ref b25)]))
    refine Goes.go (fun _ kst => XS.bipush X31.here hx rfl (hb hby at_208) kst) ?_
    show Goes p e below s _ _ _ (T31.setTop (mkF m 210 #[.val (.int p0), .val (.int p1), .val (.int p2), .val (.int p3), .val (.int p4), .val (.int p5), .val (.int (Int32.ofNat nn)), .val (.int (Int32.ofNat na)), .val (.int (p0.toInt8.toInt32)), .val (.int (p1.toInt8.toInt32)), .val (.int (p2.toInt8.toInt32)), .val (.int (p3.toInt8.toInt32)), .val (.ref b1), .val (.ref bb), .val (.int (p5.toInt8.toInt32)), .unset, .unset, .unset, .unset] [(.int (6 : Int32)), (.ref b25), (.ref b25)]))
    refine Goes.go (fun _ kst => XS.iload X31.here hx rfl (hb hby at_210) rfl  kst) ?_
    show Goes p e below s _ _ _ (T31.setTop (mkF m 212 #[.val (.int p0), .val (.int p1), .val (.int p2), .val (.int p3), .val (.int p4), .val (.int p5), .val (.int (Int32.ofNat nn)), .val (.int (Int32.ofNat na)), .val (.int (p0.toInt8.toInt32)), .val (.int (p1.toInt8.toInt32)), .val (.int (p2.toInt8.toInt32)), .val (.int (p3.toInt8.toInt32)), .val (.ref b1), .val (.ref bb), .val (.int (p5.toInt8.toInt32)), .unset, .unset, .unset, .unset] [(.int (p5.toInt8.toInt32)), (.int (6 : Int32)), (.ref b25), (.ref b25)]))
    obtain ⟨T32, h32, X32, e32, W32, A32, st32⟩ := own_stB X31 hx hZ e31 A31 (i := 6) rfl (by decide) (g := (mkF m 212 #[.val (.int p0), .val (.int p1), .val (.int p2), .val (.int p3), .val (.int p4), .val (.int p5), .val (.int (Int32.ofNat nn)), .val (.int (Int32.ofNat na)), .val (.int (p0.toInt8.toInt32)), .val (.int (p1.toInt8.toInt32)), .val (.int (p2.toInt8.toInt32)), .val (.int (p3.toInt8.toInt32)), .val (.ref b1), .val (.ref bb), .val (.int (p5.toInt8.toInt32)), .unset, .unset, .unset, .unset] [(.int (p5.toInt8.toInt32)), (.int (6 : Int32)), (.ref b25), (.ref b25)])) rfl rfl (hb hby at_212)
    have N32 := Fr.snoc X32 N31 gb25
    have Z32 := Nat.le_trans Z31 (Keep.of_wr W32).1
    have K32 := Keep.wr K31 W32 (Or.inr sb25)
    refine Goes.go st32 ?_
    show Goes p e below s _ _ _ (T32.setTop (mkF m 213 #[.val (.int p0), .val (.int p1), .val (.int p2), .val (.int p3), .val (.int p4), .val (.int p5), .val (.int (Int32.ofNat nn)), .val (.int (Int32.ofNat na)), .val (.int (p0.toInt8.toInt32)), .val (.int (p1.toInt8.toInt32)), .val (.int (p2.toInt8.toInt32)), .val (.int (p3.toInt8.toInt32)), .val (.ref b1), .val (.ref bb), .val (.int (p5.toInt8.toInt32)), .unset, .unset, .unset, .unset] [(.ref b25)]))
    refine Goes.go (fun _ kst => XS.dup X32.here hx rfl (hb hby at_213) rfl rfl kst) ?_
    show Goes p e below s _ _ _ (T32.setTop (mkF m 214 #[.val (.int p0), .val (.int p1), .val (.int p2), .val (.int p3), .val (.int p4), .val (.int p5), .val (.int (Int32.ofNat nn)), .val (.int (Int32.ofNat na)), .val (.int (p0.toInt8.toInt32)), .val (.int (p1.toInt8.toInt32)), .val (.int (p2.toInt8.toInt32)), .val (.int (p3.toInt8.toInt32)), .val (.ref b1), .val (.ref bb), .val (.int (p5.toInt8.toInt32)), .unset, .unset, .unset, .unset] [(.ref b25), (.ref b25)]))
    refine Goes.go (fun _ kst => XS.bipush X32.here hx rfl (hb hby at_214) kst) ?_
    show Goes p e below s _ _ _ (T32.setTop (mkF m 216 #[.val (.int p0), .val (.int p1), .val (.int p2), .val (.int p3), .val (.int p4), .val (.int p5), .val (.int (Int32.ofNat nn)), .val (.int (Int32.ofNat na)), .val (.int (p0.toInt8.toInt32)), .val (.int (p1.toInt8.toInt32)), .val (.int (p2.toInt8.toInt32)), .val (.int (p3.toInt8.toInt32)), .val (.ref b1), .val (.ref bb), .val (.int (p5.toInt8.toInt32)), .unset, .unset, .unset, .unset] [(.int (7 : Int32)), (.ref b25), (.ref b25)]))
    refine Goes.go (fun _ kst => XS.iload X32.here hx rfl (hb hby at_216) rfl  kst) ?_
    show Goes p e below s _ _ _ (T32.setTop (mkF m 218 #[.val (.int p0), .val (.int p1), .val (.int p2), .val (.int p3), .val (.int p4), .val (.int p5), .val (.int (Int32.ofNat nn)), .val (.int (Int32.ofNat na)), .val (.int (p0.toInt8.toInt32)), .val (.int (p1.toInt8.toInt32)), .val (.int (p2.toInt8.toInt32)), .val (.int (p3.toInt8.toInt32)), .val (.ref b1), .val (.ref bb), .val (.int (p5.toInt8.toInt32)), .unset, .unset, .unset, .unset] [(.int (p5.toInt8.toInt32)), (.int (7 : Int32)), (.ref b25), (.ref b25)]))
    obtain ⟨T33, h33, X33, e33, W33, A33, st33⟩ := own_stB X32 hx hZ e32 A32 (i := 7) rfl (by decide) (g := (mkF m 218 #[.val (.int p0), .val (.int p1), .val (.int p2), .val (.int p3), .val (.int p4), .val (.int p5), .val (.int (Int32.ofNat nn)), .val (.int (Int32.ofNat na)), .val (.int (p0.toInt8.toInt32)), .val (.int (p1.toInt8.toInt32)), .val (.int (p2.toInt8.toInt32)), .val (.int (p3.toInt8.toInt32)), .val (.ref b1), .val (.ref bb), .val (.int (p5.toInt8.toInt32)), .unset, .unset, .unset, .unset] [(.int (p5.toInt8.toInt32)), (.int (7 : Int32)), (.ref b25), (.ref b25)])) rfl rfl (hb hby at_218)
    have N33 := Fr.snoc X33 N32 gb25
    have Z33 := Nat.le_trans Z32 (Keep.of_wr W33).1
    have K33 := Keep.wr K32 W33 (Or.inr sb25)
    refine Goes.go st33 ?_
    show Goes p e below s _ _ _ (T33.setTop (mkF m 219 #[.val (.int p0), .val (.int p1), .val (.int p2), .val (.int p3), .val (.int p4), .val (.int p5), .val (.int (Int32.ofNat nn)), .val (.int (Int32.ofNat na)), .val (.int (p0.toInt8.toInt32)), .val (.int (p1.toInt8.toInt32)), .val (.int (p2.toInt8.toInt32)), .val (.int (p3.toInt8.toInt32)), .val (.ref b1), .val (.ref bb), .val (.int (p5.toInt8.toInt32)), .unset, .unset, .unset, .unset] [(.ref b25)]))
    refine Goes.go (fun _ kst => XS.dup X33.here hx rfl (hb hby at_219) rfl rfl kst) ?_
    show Goes p e below s _ _ _ (T33.setTop (mkF m 220 #[.val (.int p0), .val (.int p1), .val (.int p2), .val (.int p3), .val (.int p4), .val (.int p5), .val (.int (Int32.ofNat nn)), .val (.int (Int32.ofNat na)), .val (.int (p0.toInt8.toInt32)), .val (.int (p1.toInt8.toInt32)), .val (.int (p2.toInt8.toInt32)), .val (.int (p3.toInt8.toInt32)), .val (.ref b1), .val (.ref bb), .val (.int (p5.toInt8.toInt32)), .unset, .unset, .unset, .unset] [(.ref b25), (.ref b25)]))
    refine Goes.go (fun _ kst => XS.bipush X33.here hx rfl (hb hby at_220) kst) ?_
    show Goes p e below s _ _ _ (T33.setTop (mkF m 222 #[.val (.int p0), .val (.int p1), .val (.int p2), .val (.int p3), .val (.int p4), .val (.int p5), .val (.int (Int32.ofNat nn)), .val (.int (Int32.ofNat na)), .val (.int (p0.toInt8.toInt32)), .val (.int (p1.toInt8.toInt32)), .val (.int (p2.toInt8.toInt32)), .val (.int (p3.toInt8.toInt32)), .val (.ref b1), .val (.ref bb), .val (.int (p5.toInt8.toInt32)), .unset, .unset, .unset, .unset] [(.int (8 : Int32)), (.ref b25), (.ref b25)]))
    refine Goes.go (fun _ kst => XS.iload X33.here hx rfl (hb hby at_222) rfl  kst) ?_
    show Goes p e below s _ _ _ (T33.setTop (mkF m 224 #[.val (.int p0), .val (.int p1), .val (.int p2), .val (.int p3), .val (.int p4), .val (.int p5), .val (.int (Int32.ofNat nn)), .val (.int (Int32.ofNat na)), .val (.int (p0.toInt8.toInt32)), .val (.int (p1.toInt8.toInt32)), .val (.int (p2.toInt8.toInt32)), .val (.int (p3.toInt8.toInt32)), .val (.ref b1), .val (.ref bb), .val (.int (p5.toInt8.toInt32)), .unset, .unset, .unset, .unset] [(.int (p5.toInt8.toInt32)), (.int (8 : Int32)), (.ref b25), (.ref b25)]))
    obtain ⟨T34, h34, X34, e34, W34, A34, st34⟩ := own_stB X33 hx hZ e33 A33 (i := 8) rfl (by decide) (g := (mkF m 224 #[.val (.int p0), .val (.int p1), .val (.int p2), .val (.int p3), .val (.int p4), .val (.int p5), .val (.int (Int32.ofNat nn)), .val (.int (Int32.ofNat na)), .val (.int (p0.toInt8.toInt32)), .val (.int (p1.toInt8.toInt32)), .val (.int (p2.toInt8.toInt32)), .val (.int (p3.toInt8.toInt32)), .val (.ref b1), .val (.ref bb), .val (.int (p5.toInt8.toInt32)), .unset, .unset, .unset, .unset] [(.int (p5.toInt8.toInt32)), (.int (8 : Int32)), (.ref b25), (.ref b25)])) rfl rfl (hb hby at_224)
    have N34 := Fr.snoc X34 N33 gb25
    have Z34 := Nat.le_trans Z33 (Keep.of_wr W34).1
    have K34 := Keep.wr K33 W34 (Or.inr sb25)
    refine Goes.go st34 ?_
    show Goes p e below s _ _ _ (T34.setTop (mkF m 225 #[.val (.int p0), .val (.int p1), .val (.int p2), .val (.int p3), .val (.int p4), .val (.int p5), .val (.int (Int32.ofNat nn)), .val (.int (Int32.ofNat na)), .val (.int (p0.toInt8.toInt32)), .val (.int (p1.toInt8.toInt32)), .val (.int (p2.toInt8.toInt32)), .val (.int (p3.toInt8.toInt32)), .val (.ref b1), .val (.ref bb), .val (.int (p5.toInt8.toInt32)), .unset, .unset, .unset, .unset] [(.ref b25)]))
    refine Goes.go (fun _ kst => XS.dup X34.here hx rfl (hb hby at_225) rfl rfl kst) ?_
    show Goes p e below s _ _ _ (T34.setTop (mkF m 226 #[.val (.int p0), .val (.int p1), .val (.int p2), .val (.int p3), .val (.int p4), .val (.int p5), .val (.int (Int32.ofNat nn)), .val (.int (Int32.ofNat na)), .val (.int (p0.toInt8.toInt32)), .val (.int (p1.toInt8.toInt32)), .val (.int (p2.toInt8.toInt32)), .val (.int (p3.toInt8.toInt32)), .val (.ref b1), .val (.ref bb), .val (.int (p5.toInt8.toInt32)), .unset, .unset, .unset, .unset] [(.ref b25), (.ref b25)]))
    refine Goes.go (fun _ kst => XS.bipush X34.here hx rfl (hb hby at_226) kst) ?_
    show Goes p e below s _ _ _ (T34.setTop (mkF m 228 #[.val (.int p0), .val (.int p1), .val (.int p2), .val (.int p3), .val (.int p4), .val (.int p5), .val (.int (Int32.ofNat nn)), .val (.int (Int32.ofNat na)), .val (.int (p0.toInt8.toInt32)), .val (.int (p1.toInt8.toInt32)), .val (.int (p2.toInt8.toInt32)), .val (.int (p3.toInt8.toInt32)), .val (.ref b1), .val (.ref bb), .val (.int (p5.toInt8.toInt32)), .unset, .unset, .unset, .unset] [(.int (9 : Int32)), (.ref b25), (.ref b25)]))
    refine Goes.go (fun _ kst => XS.iload X34.here hx rfl (hb hby at_228) rfl  kst) ?_
    show Goes p e below s _ _ _ (T34.setTop (mkF m 230 #[.val (.int p0), .val (.int p1), .val (.int p2), .val (.int p3), .val (.int p4), .val (.int p5), .val (.int (Int32.ofNat nn)), .val (.int (Int32.ofNat na)), .val (.int (p0.toInt8.toInt32)), .val (.int (p1.toInt8.toInt32)), .val (.int (p2.toInt8.toInt32)), .val (.int (p3.toInt8.toInt32)), .val (.ref b1), .val (.ref bb), .val (.int (p5.toInt8.toInt32)), .unset, .unset, .unset, .unset] [(.int (p5.toInt8.toInt32)), (.int (9 : Int32)), (.ref b25), (.ref b25)]))
    obtain ⟨T35, h35, X35, e35, W35, A35, st35⟩ := own_stB X34 hx hZ e34 A34 (i := 9) rfl (by decide) (g := (mkF m 230 #[.val (.int p0), .val (.int p1), .val (.int p2), .val (.int p3), .val (.int p4), .val (.int p5), .val (.int (Int32.ofNat nn)), .val (.int (Int32.ofNat na)), .val (.int (p0.toInt8.toInt32)), .val (.int (p1.toInt8.toInt32)), .val (.int (p2.toInt8.toInt32)), .val (.int (p3.toInt8.toInt32)), .val (.ref b1), .val (.ref bb), .val (.int (p5.toInt8.toInt32)), .unset, .unset, .unset, .unset] [(.int (p5.toInt8.toInt32)), (.int (9 : Int32)), (.ref b25), (.ref b25)])) rfl rfl (hb hby at_230)
    have N35 := Fr.snoc X35 N34 gb25
    have Z35 := Nat.le_trans Z34 (Keep.of_wr W35).1
    have K35 := Keep.wr K34 W35 (Or.inr sb25)
    refine Goes.go st35 ?_
    show Goes p e below s _ _ _ (T35.setTop (mkF m 231 #[.val (.int p0), .val (.int p1), .val (.int p2), .val (.int p3), .val (.int p4), .val (.int p5), .val (.int (Int32.ofNat nn)), .val (.int (Int32.ofNat na)), .val (.int (p0.toInt8.toInt32)), .val (.int (p1.toInt8.toInt32)), .val (.int (p2.toInt8.toInt32)), .val (.int (p3.toInt8.toInt32)), .val (.ref b1), .val (.ref bb), .val (.int (p5.toInt8.toInt32)), .unset, .unset, .unset, .unset] [(.ref b25)]))
    refine Goes.go (fun _ kst => XS.dup X35.here hx rfl (hb hby at_231) rfl rfl kst) ?_
    show Goes p e below s _ _ _ (T35.setTop (mkF m 232 #[.val (.int p0), .val (.int p1), .val (.int p2), .val (.int p3), .val (.int p4), .val (.int p5), .val (.int (Int32.ofNat nn)), .val (.int (Int32.ofNat na)), .val (.int (p0.toInt8.toInt32)), .val (.int (p1.toInt8.toInt32)), .val (.int (p2.toInt8.toInt32)), .val (.int (p3.toInt8.toInt32)), .val (.ref b1), .val (.ref bb), .val (.int (p5.toInt8.toInt32)), .unset, .unset, .unset, .unset] [(.ref b25), (.ref b25)]))
    refine Goes.go (fun _ kst => XS.bipush X35.here hx rfl (hb hby at_232) kst) ?_
    show Goes p e below s _ _ _ (T35.setTop (mkF m 234 #[.val (.int p0), .val (.int p1), .val (.int p2), .val (.int p3), .val (.int p4), .val (.int p5), .val (.int (Int32.ofNat nn)), .val (.int (Int32.ofNat na)), .val (.int (p0.toInt8.toInt32)), .val (.int (p1.toInt8.toInt32)), .val (.int (p2.toInt8.toInt32)), .val (.int (p3.toInt8.toInt32)), .val (.ref b1), .val (.ref bb), .val (.int (p5.toInt8.toInt32)), .unset, .unset, .unset, .unset] [(.int (10 : Int32)), (.ref b25), (.ref b25)]))
    refine Goes.go (fun _ kst => XS.iload X35.here hx rfl (hb hby at_234) rfl  kst) ?_
    show Goes p e below s _ _ _ (T35.setTop (mkF m 236 #[.val (.int p0), .val (.int p1), .val (.int p2), .val (.int p3), .val (.int p4), .val (.int p5), .val (.int (Int32.ofNat nn)), .val (.int (Int32.ofNat na)), .val (.int (p0.toInt8.toInt32)), .val (.int (p1.toInt8.toInt32)), .val (.int (p2.toInt8.toInt32)), .val (.int (p3.toInt8.toInt32)), .val (.ref b1), .val (.ref bb), .val (.int (p5.toInt8.toInt32)), .unset, .unset, .unset, .unset] [(.int (p5.toInt8.toInt32)), (.int (10 : Int32)), (.ref b25), (.ref b25)]))
    obtain ⟨T36, h36, X36, e36, W36, A36, st36⟩ := own_stB X35 hx hZ e35 A35 (i := 10) rfl (by decide) (g := (mkF m 236 #[.val (.int p0), .val (.int p1), .val (.int p2), .val (.int p3), .val (.int p4), .val (.int p5), .val (.int (Int32.ofNat nn)), .val (.int (Int32.ofNat na)), .val (.int (p0.toInt8.toInt32)), .val (.int (p1.toInt8.toInt32)), .val (.int (p2.toInt8.toInt32)), .val (.int (p3.toInt8.toInt32)), .val (.ref b1), .val (.ref bb), .val (.int (p5.toInt8.toInt32)), .unset, .unset, .unset, .unset] [(.int (p5.toInt8.toInt32)), (.int (10 : Int32)), (.ref b25), (.ref b25)])) rfl rfl (hb hby at_236)
    have N36 := Fr.snoc X36 N35 gb25
    have Z36 := Nat.le_trans Z35 (Keep.of_wr W36).1
    have K36 := Keep.wr K35 W36 (Or.inr sb25)
    refine Goes.go st36 ?_
    show Goes p e below s _ _ _ (T36.setTop (mkF m 237 #[.val (.int p0), .val (.int p1), .val (.int p2), .val (.int p3), .val (.int p4), .val (.int p5), .val (.int (Int32.ofNat nn)), .val (.int (Int32.ofNat na)), .val (.int (p0.toInt8.toInt32)), .val (.int (p1.toInt8.toInt32)), .val (.int (p2.toInt8.toInt32)), .val (.int (p3.toInt8.toInt32)), .val (.ref b1), .val (.ref bb), .val (.int (p5.toInt8.toInt32)), .unset, .unset, .unset, .unset] [(.ref b25)]))
    refine Goes.go (fun _ kst => XS.dup X36.here hx rfl (hb hby at_237) rfl rfl kst) ?_
    show Goes p e below s _ _ _ (T36.setTop (mkF m 238 #[.val (.int p0), .val (.int p1), .val (.int p2), .val (.int p3), .val (.int p4), .val (.int p5), .val (.int (Int32.ofNat nn)), .val (.int (Int32.ofNat na)), .val (.int (p0.toInt8.toInt32)), .val (.int (p1.toInt8.toInt32)), .val (.int (p2.toInt8.toInt32)), .val (.int (p3.toInt8.toInt32)), .val (.ref b1), .val (.ref bb), .val (.int (p5.toInt8.toInt32)), .unset, .unset, .unset, .unset] [(.ref b25), (.ref b25)]))
    refine Goes.go (fun _ kst => XS.bipush X36.here hx rfl (hb hby at_238) kst) ?_
    show Goes p e below s _ _ _ (T36.setTop (mkF m 240 #[.val (.int p0), .val (.int p1), .val (.int p2), .val (.int p3), .val (.int p4), .val (.int p5), .val (.int (Int32.ofNat nn)), .val (.int (Int32.ofNat na)), .val (.int (p0.toInt8.toInt32)), .val (.int (p1.toInt8.toInt32)), .val (.int (p2.toInt8.toInt32)), .val (.int (p3.toInt8.toInt32)), .val (.ref b1), .val (.ref bb), .val (.int (p5.toInt8.toInt32)), .unset, .unset, .unset, .unset] [(.int (11 : Int32)), (.ref b25), (.ref b25)]))
    refine Goes.go (fun _ kst => XS.iload X36.here hx rfl (hb hby at_240) rfl  kst) ?_
    show Goes p e below s _ _ _ (T36.setTop (mkF m 242 #[.val (.int p0), .val (.int p1), .val (.int p2), .val (.int p3), .val (.int p4), .val (.int p5), .val (.int (Int32.ofNat nn)), .val (.int (Int32.ofNat na)), .val (.int (p0.toInt8.toInt32)), .val (.int (p1.toInt8.toInt32)), .val (.int (p2.toInt8.toInt32)), .val (.int (p3.toInt8.toInt32)), .val (.ref b1), .val (.ref bb), .val (.int (p5.toInt8.toInt32)), .unset, .unset, .unset, .unset] [(.int (p5.toInt8.toInt32)), (.int (11 : Int32)), (.ref b25), (.ref b25)]))
    obtain ⟨T37, h37, X37, e37, W37, A37, st37⟩ := own_stB X36 hx hZ e36 A36 (i := 11) rfl (by decide) (g := (mkF m 242 #[.val (.int p0), .val (.int p1), .val (.int p2), .val (.int p3), .val (.int p4), .val (.int p5), .val (.int (Int32.ofNat nn)), .val (.int (Int32.ofNat na)), .val (.int (p0.toInt8.toInt32)), .val (.int (p1.toInt8.toInt32)), .val (.int (p2.toInt8.toInt32)), .val (.int (p3.toInt8.toInt32)), .val (.ref b1), .val (.ref bb), .val (.int (p5.toInt8.toInt32)), .unset, .unset, .unset, .unset] [(.int (p5.toInt8.toInt32)), (.int (11 : Int32)), (.ref b25), (.ref b25)])) rfl rfl (hb hby at_242)
    have N37 := Fr.snoc X37 N36 gb25
    have Z37 := Nat.le_trans Z36 (Keep.of_wr W37).1
    have K37 := Keep.wr K36 W37 (Or.inr sb25)
    refine Goes.go st37 ?_
    show Goes p e below s _ _ _ (T37.setTop (mkF m 243 #[.val (.int p0), .val (.int p1), .val (.int p2), .val (.int p3), .val (.int p4), .val (.int p5), .val (.int (Int32.ofNat nn)), .val (.int (Int32.ofNat na)), .val (.int (p0.toInt8.toInt32)), .val (.int (p1.toInt8.toInt32)), .val (.int (p2.toInt8.toInt32)), .val (.int (p3.toInt8.toInt32)), .val (.ref b1), .val (.ref bb), .val (.int (p5.toInt8.toInt32)), .unset, .unset, .unset, .unset] [(.ref b25)]))
    refine Goes.go (fun _ kst => XS.dup X37.here hx rfl (hb hby at_243) rfl rfl kst) ?_
    show Goes p e below s _ _ _ (T37.setTop (mkF m 244 #[.val (.int p0), .val (.int p1), .val (.int p2), .val (.int p3), .val (.int p4), .val (.int p5), .val (.int (Int32.ofNat nn)), .val (.int (Int32.ofNat na)), .val (.int (p0.toInt8.toInt32)), .val (.int (p1.toInt8.toInt32)), .val (.int (p2.toInt8.toInt32)), .val (.int (p3.toInt8.toInt32)), .val (.ref b1), .val (.ref bb), .val (.int (p5.toInt8.toInt32)), .unset, .unset, .unset, .unset] [(.ref b25), (.ref b25)]))
    refine Goes.go (fun _ kst => XS.bipush X37.here hx rfl (hb hby at_244) kst) ?_
    show Goes p e below s _ _ _ (T37.setTop (mkF m 246 #[.val (.int p0), .val (.int p1), .val (.int p2), .val (.int p3), .val (.int p4), .val (.int p5), .val (.int (Int32.ofNat nn)), .val (.int (Int32.ofNat na)), .val (.int (p0.toInt8.toInt32)), .val (.int (p1.toInt8.toInt32)), .val (.int (p2.toInt8.toInt32)), .val (.int (p3.toInt8.toInt32)), .val (.ref b1), .val (.ref bb), .val (.int (p5.toInt8.toInt32)), .unset, .unset, .unset, .unset] [(.int (12 : Int32)), (.ref b25), (.ref b25)]))
    refine Goes.go (fun _ kst => XS.iload X37.here hx rfl (hb hby at_246) rfl  kst) ?_
    show Goes p e below s _ _ _ (T37.setTop (mkF m 248 #[.val (.int p0), .val (.int p1), .val (.int p2), .val (.int p3), .val (.int p4), .val (.int p5), .val (.int (Int32.ofNat nn)), .val (.int (Int32.ofNat na)), .val (.int (p0.toInt8.toInt32)), .val (.int (p1.toInt8.toInt32)), .val (.int (p2.toInt8.toInt32)), .val (.int (p3.toInt8.toInt32)), .val (.ref b1), .val (.ref bb), .val (.int (p5.toInt8.toInt32)), .unset, .unset, .unset, .unset] [(.int (p5.toInt8.toInt32)), (.int (12 : Int32)), (.ref b25), (.ref b25)]))
    obtain ⟨T38, h38, X38, e38, W38, A38, st38⟩ := own_stB X37 hx hZ e37 A37 (i := 12) rfl (by decide) (g := (mkF m 248 #[.val (.int p0), .val (.int p1), .val (.int p2), .val (.int p3), .val (.int p4), .val (.int p5), .val (.int (Int32.ofNat nn)), .val (.int (Int32.ofNat na)), .val (.int (p0.toInt8.toInt32)), .val (.int (p1.toInt8.toInt32)), .val (.int (p2.toInt8.toInt32)), .val (.int (p3.toInt8.toInt32)), .val (.ref b1), .val (.ref bb), .val (.int (p5.toInt8.toInt32)), .unset, .unset, .unset, .unset] [(.int (p5.toInt8.toInt32)), (.int (12 : Int32)), (.ref b25), (.ref b25)])) rfl rfl (hb hby at_248)
    have N38 := Fr.snoc X38 N37 gb25
    have Z38 := Nat.le_trans Z37 (Keep.of_wr W38).1
    have K38 := Keep.wr K37 W38 (Or.inr sb25)
    refine Goes.go st38 ?_
    show Goes p e below s _ _ _ (T38.setTop (mkF m 249 #[.val (.int p0), .val (.int p1), .val (.int p2), .val (.int p3), .val (.int p4), .val (.int p5), .val (.int (Int32.ofNat nn)), .val (.int (Int32.ofNat na)), .val (.int (p0.toInt8.toInt32)), .val (.int (p1.toInt8.toInt32)), .val (.int (p2.toInt8.toInt32)), .val (.int (p3.toInt8.toInt32)), .val (.ref b1), .val (.ref bb), .val (.int (p5.toInt8.toInt32)), .unset, .unset, .unset, .unset] [(.ref b25)]))
    refine Goes.go (fun _ kst => XS.dup X38.here hx rfl (hb hby at_249) rfl rfl kst) ?_
    show Goes p e below s _ _ _ (T38.setTop (mkF m 250 #[.val (.int p0), .val (.int p1), .val (.int p2), .val (.int p3), .val (.int p4), .val (.int p5), .val (.int (Int32.ofNat nn)), .val (.int (Int32.ofNat na)), .val (.int (p0.toInt8.toInt32)), .val (.int (p1.toInt8.toInt32)), .val (.int (p2.toInt8.toInt32)), .val (.int (p3.toInt8.toInt32)), .val (.ref b1), .val (.ref bb), .val (.int (p5.toInt8.toInt32)), .unset, .unset, .unset, .unset] [(.ref b25), (.ref b25)]))
    refine Goes.go (fun _ kst => XS.bipush X38.here hx rfl (hb hby at_250) kst) ?_
    show Goes p e below s _ _ _ (T38.setTop (mkF m 252 #[.val (.int p0), .val (.int p1), .val (.int p2), .val (.int p3), .val (.int p4), .val (.int p5), .val (.int (Int32.ofNat nn)), .val (.int (Int32.ofNat na)), .val (.int (p0.toInt8.toInt32)), .val (.int (p1.toInt8.toInt32)), .val (.int (p2.toInt8.toInt32)), .val (.int (p3.toInt8.toInt32)), .val (.ref b1), .val (.ref bb), .val (.int (p5.toInt8.toInt32)), .unset, .unset, .unset, .unset] [(.int (13 : Int32)), (.ref b25), (.ref b25)]))
    refine Goes.go (fun _ kst => XS.iload X38.here hx rfl (hb hby at_252) rfl  kst) ?_
    show Goes p e below s _ _ _ (T38.setTop (mkF m 254 #[.val (.int p0), .val (.int p1), .val (.int p2), .val (.int p3), .val (.int p4), .val (.int p5), .val (.int (Int32.ofNat nn)), .val (.int (Int32.ofNat na)), .val (.int (p0.toInt8.toInt32)), .val (.int (p1.toInt8.toInt32)), .val (.int (p2.toInt8.toInt32)), .val (.int (p3.toInt8.toInt32)), .val (.ref b1), .val (.ref bb), .val (.int (p5.toInt8.toInt32)), .unset, .unset, .unset, .unset] [(.int (p5.toInt8.toInt32)), (.int (13 : Int32)), (.ref b25), (.ref b25)]))
    obtain ⟨T39, h39, X39, e39, W39, A39, st39⟩ := own_stB X38 hx hZ e38 A38 (i := 13) rfl (by decide) (g := (mkF m 254 #[.val (.int p0), .val (.int p1), .val (.int p2), .val (.int p3), .val (.int p4), .val (.int p5), .val (.int (Int32.ofNat nn)), .val (.int (Int32.ofNat na)), .val (.int (p0.toInt8.toInt32)), .val (.int (p1.toInt8.toInt32)), .val (.int (p2.toInt8.toInt32)), .val (.int (p3.toInt8.toInt32)), .val (.ref b1), .val (.ref bb), .val (.int (p5.toInt8.toInt32)), .unset, .unset, .unset, .unset] [(.int (p5.toInt8.toInt32)), (.int (13 : Int32)), (.ref b25), (.ref b25)])) rfl rfl (hb hby at_254)
    have N39 := Fr.snoc X39 N38 gb25
    have Z39 := Nat.le_trans Z38 (Keep.of_wr W39).1
    have K39 := Keep.wr K38 W39 (Or.inr sb25)
    refine Goes.go st39 ?_
    show Goes p e below s _ _ _ (T39.setTop (mkF m 255 #[.val (.int p0), .val (.int p1), .val (.int p2), .val (.int p3), .val (.int p4), .val (.int p5), .val (.int (Int32.ofNat nn)), .val (.int (Int32.ofNat na)), .val (.int (p0.toInt8.toInt32)), .val (.int (p1.toInt8.toInt32)), .val (.int (p2.toInt8.toInt32)), .val (.int (p3.toInt8.toInt32)), .val (.ref b1), .val (.ref bb), .val (.int (p5.toInt8.toInt32)), .unset, .unset, .unset, .unset] [(.ref b25)]))
    refine Goes.go (fun _ kst => XS.dup X39.here hx rfl (hb hby at_255) rfl rfl kst) ?_
    show Goes p e below s _ _ _ (T39.setTop (mkF m 256 #[.val (.int p0), .val (.int p1), .val (.int p2), .val (.int p3), .val (.int p4), .val (.int p5), .val (.int (Int32.ofNat nn)), .val (.int (Int32.ofNat na)), .val (.int (p0.toInt8.toInt32)), .val (.int (p1.toInt8.toInt32)), .val (.int (p2.toInt8.toInt32)), .val (.int (p3.toInt8.toInt32)), .val (.ref b1), .val (.ref bb), .val (.int (p5.toInt8.toInt32)), .unset, .unset, .unset, .unset] [(.ref b25), (.ref b25)]))
    refine Goes.go (fun _ kst => XS.bipush X39.here hx rfl (hb hby at_256) kst) ?_
    show Goes p e below s _ _ _ (T39.setTop (mkF m 258 #[.val (.int p0), .val (.int p1), .val (.int p2), .val (.int p3), .val (.int p4), .val (.int p5), .val (.int (Int32.ofNat nn)), .val (.int (Int32.ofNat na)), .val (.int (p0.toInt8.toInt32)), .val (.int (p1.toInt8.toInt32)), .val (.int (p2.toInt8.toInt32)), .val (.int (p3.toInt8.toInt32)), .val (.ref b1), .val (.ref bb), .val (.int (p5.toInt8.toInt32)), .unset, .unset, .unset, .unset] [(.int (14 : Int32)), (.ref b25), (.ref b25)]))
    refine Goes.go (fun _ kst => XS.iload X39.here hx rfl (hb hby at_258) rfl  kst) ?_
    show Goes p e below s _ _ _ (T39.setTop (mkF m 260 #[.val (.int p0), .val (.int p1), .val (.int p2), .val (.int p3), .val (.int p4), .val (.int p5), .val (.int (Int32.ofNat nn)), .val (.int (Int32.ofNat na)), .val (.int (p0.toInt8.toInt32)), .val (.int (p1.toInt8.toInt32)), .val (.int (p2.toInt8.toInt32)), .val (.int (p3.toInt8.toInt32)), .val (.ref b1), .val (.ref bb), .val (.int (p5.toInt8.toInt32)), .unset, .unset, .unset, .unset] [(.int (p5.toInt8.toInt32)), (.int (14 : Int32)), (.ref b25), (.ref b25)]))
    obtain ⟨T40, h40, X40, e40, W40, A40, st40⟩ := own_stB X39 hx hZ e39 A39 (i := 14) rfl (by decide) (g := (mkF m 260 #[.val (.int p0), .val (.int p1), .val (.int p2), .val (.int p3), .val (.int p4), .val (.int p5), .val (.int (Int32.ofNat nn)), .val (.int (Int32.ofNat na)), .val (.int (p0.toInt8.toInt32)), .val (.int (p1.toInt8.toInt32)), .val (.int (p2.toInt8.toInt32)), .val (.int (p3.toInt8.toInt32)), .val (.ref b1), .val (.ref bb), .val (.int (p5.toInt8.toInt32)), .unset, .unset, .unset, .unset] [(.int (p5.toInt8.toInt32)), (.int (14 : Int32)), (.ref b25), (.ref b25)])) rfl rfl (hb hby at_260)
    have N40 := Fr.snoc X40 N39 gb25
    have Z40 := Nat.le_trans Z39 (Keep.of_wr W40).1
    have K40 := Keep.wr K39 W40 (Or.inr sb25)
    refine Goes.go st40 ?_
    show Goes p e below s _ _ _ (T40.setTop (mkF m 261 #[.val (.int p0), .val (.int p1), .val (.int p2), .val (.int p3), .val (.int p4), .val (.int p5), .val (.int (Int32.ofNat nn)), .val (.int (Int32.ofNat na)), .val (.int (p0.toInt8.toInt32)), .val (.int (p1.toInt8.toInt32)), .val (.int (p2.toInt8.toInt32)), .val (.int (p3.toInt8.toInt32)), .val (.ref b1), .val (.ref bb), .val (.int (p5.toInt8.toInt32)), .unset, .unset, .unset, .unset] [(.ref b25)]))
    refine Goes.go (fun _ kst => XS.astore X40.here hx rfl (hb hby at_261) rfl rfl (l' := #[.val (.int p0), .val (.int p1), .val (.int p2), .val (.int p3), .val (.int p4), .val (.int p5), .val (.int (Int32.ofNat nn)), .val (.int (Int32.ofNat na)), .val (.int (p0.toInt8.toInt32)), .val (.int (p1.toInt8.toInt32)), .val (.int (p2.toInt8.toInt32)), .val (.int (p3.toInt8.toInt32)), .val (.ref b1), .val (.ref bb), .val (.int (p5.toInt8.toInt32)), .val (.ref b25), .unset, .unset, .unset]) rfl kst) ?_
    have An41 := A40
    obtain ⟨tt, htt⟩ : ∃ f : Nat → Int32, f = (own_upd (own_upd (own_upd (own_upd (own_upd (own_upd (own_upd (own_upd (own_upd (own_upd (own_upd (own_upd (own_upd (own_upd (own_upd (fun _ => 0) 0 (nar .byte (p5.toInt8.toInt32))) 1 (nar .byte (p5.toInt8.toInt32))) 2 (nar .byte (p5.toInt8.toInt32))) 3 (nar .byte (p5.toInt8.toInt32))) 4 (nar .byte (p5.toInt8.toInt32))) 5 (nar .byte (p5.toInt8.toInt32))) 6 (nar .byte (p5.toInt8.toInt32))) 7 (nar .byte (p5.toInt8.toInt32))) 8 (nar .byte (p5.toInt8.toInt32))) 9 (nar .byte (p5.toInt8.toInt32))) 10 (nar .byte (p5.toInt8.toInt32))) 11 (nar .byte (p5.toInt8.toInt32))) 12 (nar .byte (p5.toInt8.toInt32))) 13 (nar .byte (p5.toInt8.toInt32))) 14 (nar .byte (p5.toInt8.toInt32))) := ⟨_, rfl⟩
    rw [← htt] at An41
    have ht : ∀ i, i < 15 → tt i = nar .byte (p5.toInt8.toInt32) := by
      intro i hi
      have : i = 0 ∨ i = 1 ∨ i = 2 ∨ i = 3 ∨ i = 4 ∨ i = 5 ∨ i = 6 ∨ i = 7 ∨ i = 8 ∨ i = 9 ∨ i = 10 ∨ i = 11 ∨ i = 12 ∨ i = 13 ∨ i = 14 := by omega
      subst htt
      rcases this with rfl | rfl | rfl | rfl | rfl | rfl | rfl | rfl | rfl | rfl | rfl | rfl | rfl | rfl | rfl <;> rfl
    exact J263 _ _ tt ht X40 e40 N40 Z40 K40 ((((((((((((((((AB13.ext E25).other W26 (Nat.ne_of_lt (Nat.lt_of_lt_of_le AB13.lt (Nat.le_of_eq g25.symm)))).other W27 (Nat.ne_of_lt (Nat.lt_of_lt_of_le AB13.lt (Nat.le_of_eq g25.symm)))).other W28 (Nat.ne_of_lt (Nat.lt_of_lt_of_le AB13.lt (Nat.le_of_eq g25.symm)))).other W29 (Nat.ne_of_lt (Nat.lt_of_lt_of_le AB13.lt (Nat.le_of_eq g25.symm)))).other W30 (Nat.ne_of_lt (Nat.lt_of_lt_of_le AB13.lt (Nat.le_of_eq g25.symm)))).other W31 (Nat.ne_of_lt (Nat.lt_of_lt_of_le AB13.lt (Nat.le_of_eq g25.symm)))).other W32 (Nat.ne_of_lt (Nat.lt_of_lt_of_le AB13.lt (Nat.le_of_eq g25.symm)))).other W33 (Nat.ne_of_lt (Nat.lt_of_lt_of_le AB13.lt (Nat.le_of_eq g25.symm)))).other W34 (Nat.ne_of_lt (Nat.lt_of_lt_of_le AB13.lt (Nat.le_of_eq g25.symm)))).other W35 (Nat.ne_of_lt (Nat.lt_of_lt_of_le AB13.lt (Nat.le_of_eq g25.symm)))).other W36 (Nat.ne_of_lt (Nat.lt_of_lt_of_le AB13.lt (Nat.le_of_eq g25.symm)))).other W37 (Nat.ne_of_lt (Nat.lt_of_lt_of_le AB13.lt (Nat.le_of_eq g25.symm)))).other W38 (Nat.ne_of_lt (Nat.lt_of_lt_of_le AB13.lt (Nat.le_of_eq g25.symm)))).other W39 (Nat.ne_of_lt (Nat.lt_of_lt_of_le AB13.lt (Nat.le_of_eq g25.symm)))).other W40 (Nat.ne_of_lt (Nat.lt_of_lt_of_le AB13.lt (Nat.le_of_eq g25.symm)))) An41 ((((((((((((((((AV12.ext E25).other W26 (Nat.ne_of_lt (Nat.lt_of_lt_of_le AV12.lt (Nat.le_of_eq g25.symm)))).other W27 (Nat.ne_of_lt (Nat.lt_of_lt_of_le AV12.lt (Nat.le_of_eq g25.symm)))).other W28 (Nat.ne_of_lt (Nat.lt_of_lt_of_le AV12.lt (Nat.le_of_eq g25.symm)))).other W29 (Nat.ne_of_lt (Nat.lt_of_lt_of_le AV12.lt (Nat.le_of_eq g25.symm)))).other W30 (Nat.ne_of_lt (Nat.lt_of_lt_of_le AV12.lt (Nat.le_of_eq g25.symm)))).other W31 (Nat.ne_of_lt (Nat.lt_of_lt_of_le AV12.lt (Nat.le_of_eq g25.symm)))).other W32 (Nat.ne_of_lt (Nat.lt_of_lt_of_le AV12.lt (Nat.le_of_eq g25.symm)))).other W33 (Nat.ne_of_lt (Nat.lt_of_lt_of_le AV12.lt (Nat.le_of_eq g25.symm)))).other W34 (Nat.ne_of_lt (Nat.lt_of_lt_of_le AV12.lt (Nat.le_of_eq g25.symm)))).other W35 (Nat.ne_of_lt (Nat.lt_of_lt_of_le AV12.lt (Nat.le_of_eq g25.symm)))).other W36 (Nat.ne_of_lt (Nat.lt_of_lt_of_le AV12.lt (Nat.le_of_eq g25.symm)))).other W37 (Nat.ne_of_lt (Nat.lt_of_lt_of_le AV12.lt (Nat.le_of_eq g25.symm)))).other W38 (Nat.ne_of_lt (Nat.lt_of_lt_of_le AV12.lt (Nat.le_of_eq g25.symm)))).other W39 (Nat.ne_of_lt (Nat.lt_of_lt_of_le AV12.lt (Nat.le_of_eq g25.symm)))).other W40 (Nat.ne_of_lt (Nat.lt_of_lt_of_le AV12.lt (Nat.le_of_eq g25.symm)))) (((((((((((((((EA25.wr W26).wr W27).wr W28).wr W29).wr W30).wr W31).wr W32).wr W33).wr W34).wr W35).wr W36).wr W37).wr W38).wr W39).wr W40) gb25 sb25 (Nat.ne_of_lt (Nat.lt_of_lt_of_le AB13.lt (Nat.le_of_eq g25.symm))) (Nat.ne_of_lt (Nat.lt_of_lt_of_le AV12.lt (Nat.le_of_eq g25.symm)))
  show Goes p e below s _ _ _ (T5.setTop (mkF m 58 #[.val (.int p0), .val (.int p1), .val (.int p2), .val (.int p3), .val (.int p4), .val (.int p5), .val (.int (Int32.ofNat nn)), .val (.int (Int32.ofNat na)), .val (.int (p0.toInt8.toInt32)), .val (.int (p1.toInt8.toInt32)), .val (.int (p2.toInt8.toInt32)), .val (.int (p3.toInt8.toInt32)), .val (.ref b1), .unset, .unset, .unset, .unset, .unset, .unset] []))
  refine Goes.go (fun _ kst => XS.iload X5.here hx rfl (hb hby at_58) rfl  kst) ?_
  show Goes p e below s _ _ _ (T5.setTop (mkF m 60 #[.val (.int p0), .val (.int p1), .val (.int p2), .val (.int p3), .val (.int p4), .val (.int p5), .val (.int (Int32.ofNat nn)), .val (.int (Int32.ofNat na)), .val (.int (p0.toInt8.toInt32)), .val (.int (p1.toInt8.toInt32)), .val (.int (p2.toInt8.toInt32)), .val (.int (p3.toInt8.toInt32)), .val (.ref b1), .unset, .unset, .unset, .unset, .unset, .unset] [(.int (Int32.ofNat nn))]))
  by_cases hc60_42 : (Int32.ofNat nn) = (0 : Int32)
  · skip
    refine Goes.go (fun _ kst => XS.ifNo X5.here hx rfl (hb hby at_60) rfl ((if0 _ _).trans (teq hc60_42).2) kst) ?_
    show Goes p e below s _ _ _ (T5.setTop (mkF m 63 #[.val (.int p0), .val (.int p1), .val (.int p2), .val (.int p3), .val (.int p4), .val (.int p5), .val (.int (Int32.ofNat nn)), .val (.int (Int32.ofNat na)), .val (.int (p0.toInt8.toInt32)), .val (.int (p1.toInt8.toInt32)), .val (.int (p2.toInt8.toInt32)), .val (.int (p3.toInt8.toInt32)), .val (.ref b1), .unset, .unset, .unset, .unset, .unset, .unset] []))
    refine Goes.go (fun _ kst => XS.iconst X5.here hx rfl (hb hby at_63) kst) ?_
    show Goes p e below s _ _ _ (T5.setTop (mkF m 64 #[.val (.int p0), .val (.int p1), .val (.int p2), .val (.int p3), .val (.int p4), .val (.int p5), .val (.int (Int32.ofNat nn)), .val (.int (Int32.ofNat na)), .val (.int (p0.toInt8.toInt32)), .val (.int (p1.toInt8.toInt32)), .val (.int (p2.toInt8.toInt32)), .val (.int (p3.toInt8.toInt32)), .val (.ref b1), .unset, .unset, .unset, .unset, .unset, .unset] [(.int (0 : Int32))]))
    obtain ⟨T43, h43, X43, e43, E43, A43, EA43, st43⟩ := own_newA X5 hx hZ (hw _ (List.mem_of_getElem? (i := 0) rfl)) e5 (g := (mkF m 64 #[.val (.int p0), .val (.int p1), .val (.int p2), .val (.int p3), .val (.int p4), .val (.int p5), .val (.int (Int32.ofNat nn)), .val (.int (Int32.ofNat na)), .val (.int (p0.toInt8.toInt32)), .val (.int (p1.toInt8.toInt32)), .val (.int (p2.toInt8.toInt32)), .val (.int (p3.toInt8.toInt32)), .val (.ref b1), .unset, .unset, .unset, .unset, .unset, .unset] [(.int (0 : Int32))])) rfl (hb hby at_64) rfl (n := 0) rfl (cap := 0) (Nat.le_refl _) (by decide) (by decide) (by decide) (by decide) (by decide) (by decide : _ = "[B")
    obtain ⟨b43, g43⟩ : ∃ z, z = h5.size := ⟨_, rfl⟩
    rw [← g43] at A43 EA43 st43
    have gb43 : n0 ≤ b43 := Nat.le_trans Z5 (Nat.le_of_eq g43.symm)
    have sb43 : h0.size ≤ b43 := Nat.le_trans K5.1 (Nat.le_of_eq g43.symm)
    have Z43 := Nat.le_trans Z5 E43.1
    have K43 := Keep.ext K5 E43
    refine Goes.go st43 ?_
    show Goes p e below s _ _ _ (T43.setTop (mkF m 66 #[.val (.int p0), .val (.int p1), .val (.int p2), .val (.int p3), .val (.int p4), .val (.int p5), .val (.int (Int32.ofNat nn)), .val (.int (Int32.ofNat na)), .val (.int (p0.toInt8.toInt32)), .val (.int (p1.toInt8.toInt32)), .val (.int (p2.toInt8.toInt32)), .val (.int (p3.toInt8.toInt32)), .val (.ref b1), .unset, .unset, .unset, .unset, .unset, .unset] [(.ref b43)]))
    refine Goes.go (fun _ kst => XS.astore X43.here hx rfl (hb hby at_66) rfl rfl (l' := #[.val (.int p0), .val (.int p1), .val (.int p2), .val (.int p3), .val (.int p4), .val (.int p5), .val (.int (Int32.ofNat nn)), .val (.int (Int32.ofNat na)), .val (.int (p0.toInt8.toInt32)), .val (.int (p1.toInt8.toInt32)), .val (.int (p2.toInt8.toInt32)), .val (.int (p3.toInt8.toInt32)), .val (.ref b1), .val (.ref b43), .unset, .unset, .unset, .unset, .unset]) rfl kst) ?_
    show Goes p e below s _ _ _ (T43.setTop (mkF m 68 #[.val (.int p0), .val (.int p1), .val (.int p2), .val (.int p3), .val (.int p4), .val (.int p5), .val (.int (Int32.ofNat nn)), .val (.int (Int32.ofNat na)), .val (.int (p0.toInt8.toInt32)), .val (.int (p1.toInt8.toInt32)), .val (.int (p2.toInt8.toInt32)), .val (.int (p3.toInt8.toInt32)), .val (.ref b1), .val (.ref b43), .unset, .unset, .unset, .unset, .unset] []))
    refine Goes.go (fun _ kst => XS.goto X43.here hx rfl (pc0 := 68) (pc' := 168) rfl (hb hby at_68) (by decide) (by decide) kst) ?_
    have hk : nn = 0 := by
      have qhc60_42 := (own_inj (i := nn) (n := 0) (by omega) (by decide)).mp hc60_42
      omega
    refine J168 b43 (X43.more (by decide) (by decide)) e43 N5 Z43 K43 (hk ▸ (A43).as (fun i hi => ?_)) (An6.ext E43)
    exact absurd hi (Nat.not_lt_zero _)
  · skip
    refine Goes.go (fun _ kst => XS.ifYes X5.here hx rfl (pc0 := 60) (pc' := 71) rfl (hb hby at_60) rfl ((if0 _ _).trans (feq hc60_42).2) (by decide) (by decide) kst) ?_
    show Goes p e below s _ _ _ (T5.setTop (mkF m 71 #[.val (.int p0), .val (.int p1), .val (.int p2), .val (.int p3), .val (.int p4), .val (.int p5), .val (.int (Int32.ofNat nn)), .val (.int (Int32.ofNat na)), .val (.int (p0.toInt8.toInt32)), .val (.int (p1.toInt8.toInt32)), .val (.int (p2.toInt8.toInt32)), .val (.int (p3.toInt8.toInt32)), .val (.ref b1), .unset, .unset, .unset, .unset, .unset, .unset] []))
    refine Goes.go (fun _ kst => XS.iload X5.here hx rfl (hb hby at_71) rfl  kst) ?_
    show Goes p e below s _ _ _ (T5.setTop (mkF m 73 #[.val (.int p0), .val (.int p1), .val (.int p2), .val (.int p3), .val (.int p4), .val (.int p5), .val (.int (Int32.ofNat nn)), .val (.int (Int32.ofNat na)), .val (.int (p0.toInt8.toInt32)), .val (.int (p1.toInt8.toInt32)), .val (.int (p2.toInt8.toInt32)), .val (.int (p3.toInt8.toInt32)), .val (.ref b1), .unset, .unset, .unset, .unset, .unset, .unset] [(.int (Int32.ofNat nn))]))
    refine Goes.go (fun _ kst => XS.iconst X5.here hx rfl (hb hby at_73) kst) ?_
    show Goes p e below s _ _ _ (T5.setTop (mkF m 74 #[.val (.int p0), .val (.int p1), .val (.int p2), .val (.int p3), .val (.int p4), .val (.int p5), .val (.int (Int32.ofNat nn)), .val (.int (Int32.ofNat na)), .val (.int (p0.toInt8.toInt32)), .val (.int (p1.toInt8.toInt32)), .val (.int (p2.toInt8.toInt32)), .val (.int (p3.toInt8.toInt32)), .val (.ref b1), .unset, .unset, .unset, .unset, .unset, .unset] [(.int (1 : Int32)), (.int (Int32.ofNat nn))]))
    by_cases hc74_44 : (Int32.ofNat nn) = (1 : Int32)
    · skip
      refine Goes.go (fun _ kst => XS.icmpNo X5.here hx rfl (hb hby at_74) rfl (teq hc74_44).2 kst) ?_
      show Goes p e below s _ _ _ (T5.setTop (mkF m 77 #[.val (.int p0), .val (.int p1), .val (.int p2), .val (.int p3), .val (.int p4), .val (.int p5), .val (.int (Int32.ofNat nn)), .val (.int (Int32.ofNat na)), .val (.int (p0.toInt8.toInt32)), .val (.int (p1.toInt8.toInt32)), .val (.int (p2.toInt8.toInt32)), .val (.int (p3.toInt8.toInt32)), .val (.ref b1), .unset, .unset, .unset, .unset, .unset, .unset] []))
      refine Goes.go (fun _ kst => XS.iconst X5.here hx rfl (hb hby at_77) kst) ?_
      show Goes p e below s _ _ _ (T5.setTop (mkF m 78 #[.val (.int p0), .val (.int p1), .val (.int p2), .val (.int p3), .val (.int p4), .val (.int p5), .val (.int (Int32.ofNat nn)), .val (.int (Int32.ofNat na)), .val (.int (p0.toInt8.toInt32)), .val (.int (p1.toInt8.toInt32)), .val (.int (p2.toInt8.toInt32)), .val (.int (p3.toInt8.toInt32)), .val (.ref b1), .unset, .unset, .unset, .unset, .unset, .unset] [(.int (1 : Int32))]))
      obtain ⟨T45, h45, X45, e45, E45, A45, EA45, st45⟩ := own_newA X5 hx hZ (hw _ (List.mem_of_getElem? (i := 0) rfl)) e5 (g := (mkF m 78 #[.val (.int p0), .val (.int p1), .val (.int p2), .val (.int p3), .val (.int p4), .val (.int p5), .val (.int (Int32.ofNat nn)), .val (.int (Int32.ofNat na)), .val (.int (p0.toInt8.toInt32)), .val (.int (p1.toInt8.toInt32)), .val (.int (p2.toInt8.toInt32)), .val (.int (p3.toInt8.toInt32)), .val (.ref b1), .unset, .unset, .unset, .unset, .unset, .unset] [(.int (1 : Int32))])) rfl (hb hby at_78) rfl (n := 1) rfl (cap := 1) (Nat.le_refl _) (by decide) (by decide) (by decide) (by decide) (by decide) (by decide : _ = "[B")
      obtain ⟨b45, g45⟩ : ∃ z, z = h5.size := ⟨_, rfl⟩
      rw [← g45] at A45 EA45 st45
      have gb45 : n0 ≤ b45 := Nat.le_trans Z5 (Nat.le_of_eq g45.symm)
      have sb45 : h0.size ≤ b45 := Nat.le_trans K5.1 (Nat.le_of_eq g45.symm)
      have Z45 := Nat.le_trans Z5 E45.1
      have K45 := Keep.ext K5 E45
      refine Goes.go st45 ?_
      show Goes p e below s _ _ _ (T45.setTop (mkF m 80 #[.val (.int p0), .val (.int p1), .val (.int p2), .val (.int p3), .val (.int p4), .val (.int p5), .val (.int (Int32.ofNat nn)), .val (.int (Int32.ofNat na)), .val (.int (p0.toInt8.toInt32)), .val (.int (p1.toInt8.toInt32)), .val (.int (p2.toInt8.toInt32)), .val (.int (p3.toInt8.toInt32)), .val (.ref b1), .unset, .unset, .unset, .unset, .unset, .unset] [(.ref b45)]))
      refine Goes.go (fun _ kst => XS.dup X45.here hx rfl (hb hby at_80) rfl rfl kst) ?_
      show Goes p e below s _ _ _ (T45.setTop (mkF m 81 #[.val (.int p0), .val (.int p1), .val (.int p2), .val (.int p3), .val (.int p4), .val (.int p5), .val (.int (Int32.ofNat nn)), .val (.int (Int32.ofNat na)), .val (.int (p0.toInt8.toInt32)), .val (.int (p1.toInt8.toInt32)), .val (.int (p2.toInt8.toInt32)), .val (.int (p3.toInt8.toInt32)), .val (.ref b1), .unset, .unset, .unset, .unset, .unset, .unset] [(.ref b45), (.ref b45)]))
      refine Goes.go (fun _ kst => XS.iconst X45.here hx rfl (hb hby at_81) kst) ?_
      show Goes p e below s _ _ _ (T45.setTop (mkF m 82 #[.val (.int p0), .val (.int p1), .val (.int p2), .val (.int p3), .val (.int p4), .val (.int p5), .val (.int (Int32.ofNat nn)), .val (.int (Int32.ofNat na)), .val (.int (p0.toInt8.toInt32)), .val (.int (p1.toInt8.toInt32)), .val (.int (p2.toInt8.toInt32)), .val (.int (p3.toInt8.toInt32)), .val (.ref b1), .unset, .unset, .unset, .unset, .unset, .unset] [(.int (0 : Int32)), (.ref b45), (.ref b45)]))
      refine Goes.go (fun _ kst => XS.iload X45.here hx rfl (hb hby at_82) rfl  kst) ?_
      show Goes p e below s _ _ _ (T45.setTop (mkF m 84 #[.val (.int p0), .val (.int p1), .val (.int p2), .val (.int p3), .val (.int p4), .val (.int p5), .val (.int (Int32.ofNat nn)), .val (.int (Int32.ofNat na)), .val (.int (p0.toInt8.toInt32)), .val (.int (p1.toInt8.toInt32)), .val (.int (p2.toInt8.toInt32)), .val (.int (p3.toInt8.toInt32)), .val (.ref b1), .unset, .unset, .unset, .unset, .unset, .unset] [(.int (p0.toInt8.toInt32)), (.int (0 : Int32)), (.ref b45), (.ref b45)]))
      obtain ⟨T46, h46, X46, e46, W46, A46, st46⟩ := own_stB X45 hx hZ e45 A45 (i := 0) rfl (by decide) (g := (mkF m 84 #[.val (.int p0), .val (.int p1), .val (.int p2), .val (.int p3), .val (.int p4), .val (.int p5), .val (.int (Int32.ofNat nn)), .val (.int (Int32.ofNat na)), .val (.int (p0.toInt8.toInt32)), .val (.int (p1.toInt8.toInt32)), .val (.int (p2.toInt8.toInt32)), .val (.int (p3.toInt8.toInt32)), .val (.ref b1), .unset, .unset, .unset, .unset, .unset, .unset] [(.int (p0.toInt8.toInt32)), (.int (0 : Int32)), (.ref b45), (.ref b45)])) rfl rfl (hb hby at_84)
      have N46 := Fr.snoc X46 N5 gb45
      have Z46 := Nat.le_trans Z45 (Keep.of_wr W46).1
      have K46 := Keep.wr K45 W46 (Or.inr sb45)
      refine Goes.go st46 ?_
      show Goes p e below s _ _ _ (T46.setTop (mkF m 85 #[.val (.int p0), .val (.int p1), .val (.int p2), .val (.int p3), .val (.int p4), .val (.int p5), .val (.int (Int32.ofNat nn)), .val (.int (Int32.ofNat na)), .val (.int (p0.toInt8.toInt32)), .val (.int (p1.toInt8.toInt32)), .val (.int (p2.toInt8.toInt32)), .val (.int (p3.toInt8.toInt32)), .val (.ref b1), .unset, .unset, .unset, .unset, .unset, .unset] [(.ref b45)]))
      refine Goes.go (fun _ kst => XS.astore X46.here hx rfl (hb hby at_85) rfl rfl (l' := #[.val (.int p0), .val (.int p1), .val (.int p2), .val (.int p3), .val (.int p4), .val (.int p5), .val (.int (Int32.ofNat nn)), .val (.int (Int32.ofNat na)), .val (.int (p0.toInt8.toInt32)), .val (.int (p1.toInt8.toInt32)), .val (.int (p2.toInt8.toInt32)), .val (.int (p3.toInt8.toInt32)), .val (.ref b1), .val (.ref b45), .unset, .unset, .unset, .unset, .unset]) rfl kst) ?_
      show Goes p e below s _ _ _ (T46.setTop (mkF m 87 #[.val (.int p0), .val (.int p1), .val (.int p2), .val (.int p3), .val (.int p4), .val (.int p5), .val (.int (Int32.ofNat nn)), .val (.int (Int32.ofNat na)), .val (.int (p0.toInt8.toInt32)), .val (.int (p1.toInt8.toInt32)), .val (.int (p2.toInt8.toInt32)), .val (.int (p3.toInt8.toInt32)), .val (.ref b1), .val (.ref b45), .unset, .unset, .unset, .unset, .unset] []))
      refine Goes.go (fun _ kst => XS.goto X46.here hx rfl (pc0 := 87) (pc' := 168) rfl (hb hby at_87) (by decide) (by decide) kst) ?_
      have hk : nn = 1 := by
        have qhc60_42 := mt (own_inj (i := nn) (n := 0) (by omega) (by decide)).mpr hc60_42
        have qhc74_44 := (own_inj (i := nn) (n := 1) (by omega) (by decide)).mp hc74_44
        omega
      refine J168 b45 (X46.more (by decide) (by decide)) e46 N46 Z46 K46 (hk ▸ (A46).as (fun i hi => ?_)) ((An6.ext E45).other W46 (Nat.ne_of_lt (Nat.lt_of_lt_of_le An6.lt (Nat.le_of_eq g45.symm))))
      subst hvv
      have : i = 0 := by omega
      rcases this with rfl
      · exact (own_us).trans (((own_un (by decide)).trans ((own_un (by decide)).trans ((own_un (by decide)).trans own_us)))).symm
    · skip
      refine Goes.go (fun _ kst => XS.icmpYes X5.here hx rfl (pc0 := 74) (pc' := 90) rfl (hb hby at_74) rfl (feq hc74_44).2 (by decide) (by decide) kst) ?_
      show Goes p e below s _ _ _ (T5.setTop (mkF m 90 #[.val (.int p0), .val (.int p1), .val (.int p2), .val (.int p3), .val (.int p4), .val (.int p5), .val (.int (Int32.ofNat nn)), .val (.int (Int32.ofNat na)), .val (.int (p0.toInt8.toInt32)), .val (.int (p1.toInt8.toInt32)), .val (.int (p2.toInt8.toInt32)), .val (.int (p3.toInt8.toInt32)), .val (.ref b1), .unset, .unset, .unset, .unset, .unset, .unset] []))
      refine Goes.go (fun _ kst => XS.iload X5.here hx rfl (hb hby at_90) rfl  kst) ?_
      show Goes p e below s _ _ _ (T5.setTop (mkF m 92 #[.val (.int p0), .val (.int p1), .val (.int p2), .val (.int p3), .val (.int p4), .val (.int p5), .val (.int (Int32.ofNat nn)), .val (.int (Int32.ofNat na)), .val (.int (p0.toInt8.toInt32)), .val (.int (p1.toInt8.toInt32)), .val (.int (p2.toInt8.toInt32)), .val (.int (p3.toInt8.toInt32)), .val (.ref b1), .unset, .unset, .unset, .unset, .unset, .unset] [(.int (Int32.ofNat nn))]))
      refine Goes.go (fun _ kst => XS.iconst X5.here hx rfl (hb hby at_92) kst) ?_
      show Goes p e below s _ _ _ (T5.setTop (mkF m 93 #[.val (.int p0), .val (.int p1), .val (.int p2), .val (.int p3), .val (.int p4), .val (.int p5), .val (.int (Int32.ofNat nn)), .val (.int (Int32.ofNat na)), .val (.int (p0.toInt8.toInt32)), .val (.int (p1.toInt8.toInt32)), .val (.int (p2.toInt8.toInt32)), .val (.int (p3.toInt8.toInt32)), .val (.ref b1), .unset, .unset, .unset, .unset, .unset, .unset] [(.int (2 : Int32)), (.int (Int32.ofNat nn))]))
      by_cases hc93_47 : (Int32.ofNat nn) = (2 : Int32)
      · skip
        refine Goes.go (fun _ kst => XS.icmpNo X5.here hx rfl (hb hby at_93) rfl (teq hc93_47).2 kst) ?_
        show Goes p e below s _ _ _ (T5.setTop (mkF m 96 #[.val (.int p0), .val (.int p1), .val (.int p2), .val (.int p3), .val (.int p4), .val (.int p5), .val (.int (Int32.ofNat nn)), .val (.int (Int32.ofNat na)), .val (.int (p0.toInt8.toInt32)), .val (.int (p1.toInt8.toInt32)), .val (.int (p2.toInt8.toInt32)), .val (.int (p3.toInt8.toInt32)), .val (.ref b1), .unset, .unset, .unset, .unset, .unset, .unset] []))
        refine Goes.go (fun _ kst => XS.iconst X5.here hx rfl (hb hby at_96) kst) ?_
        show Goes p e below s _ _ _ (T5.setTop (mkF m 97 #[.val (.int p0), .val (.int p1), .val (.int p2), .val (.int p3), .val (.int p4), .val (.int p5), .val (.int (Int32.ofNat nn)), .val (.int (Int32.ofNat na)), .val (.int (p0.toInt8.toInt32)), .val (.int (p1.toInt8.toInt32)), .val (.int (p2.toInt8.toInt32)), .val (.int (p3.toInt8.toInt32)), .val (.ref b1), .unset, .unset, .unset, .unset, .unset, .unset] [(.int (2 : Int32))]))
        obtain ⟨T48, h48, X48, e48, E48, A48, EA48, st48⟩ := own_newA X5 hx hZ (hw _ (List.mem_of_getElem? (i := 0) rfl)) e5 (g := (mkF m 97 #[.val (.int p0), .val (.int p1), .val (.int p2), .val (.int p3), .val (.int p4), .val (.int p5), .val (.int (Int32.ofNat nn)), .val (.int (Int32.ofNat na)), .val (.int (p0.toInt8.toInt32)), .val (.int (p1.toInt8.toInt32)), .val (.int (p2.toInt8.toInt32)), .val (.int (p3.toInt8.toInt32)), .val (.ref b1), .unset, .unset, .unset, .unset, .unset, .unset] [(.int (2 : Int32))])) rfl (hb hby at_97) rfl (n := 2) rfl (cap := 2) (Nat.le_refl _) (by decide) (by decide) (by decide) (by decide) (by decide) (by decide : _ = "[B")
        obtain ⟨b48, g48⟩ : ∃ z, z = h5.size := ⟨_, rfl⟩
        rw [← g48] at A48 EA48 st48
        have gb48 : n0 ≤ b48 := Nat.le_trans Z5 (Nat.le_of_eq g48.symm)
        have sb48 : h0.size ≤ b48 := Nat.le_trans K5.1 (Nat.le_of_eq g48.symm)
        have Z48 := Nat.le_trans Z5 E48.1
        have K48 := Keep.ext K5 E48
        refine Goes.go st48 ?_
        show Goes p e below s _ _ _ (T48.setTop (mkF m 99 #[.val (.int p0), .val (.int p1), .val (.int p2), .val (.int p3), .val (.int p4), .val (.int p5), .val (.int (Int32.ofNat nn)), .val (.int (Int32.ofNat na)), .val (.int (p0.toInt8.toInt32)), .val (.int (p1.toInt8.toInt32)), .val (.int (p2.toInt8.toInt32)), .val (.int (p3.toInt8.toInt32)), .val (.ref b1), .unset, .unset, .unset, .unset, .unset, .unset] [(.ref b48)]))
        refine Goes.go (fun _ kst => XS.dup X48.here hx rfl (hb hby at_99) rfl rfl kst) ?_
        show Goes p e below s _ _ _ (T48.setTop (mkF m 100 #[.val (.int p0), .val (.int p1), .val (.int p2), .val (.int p3), .val (.int p4), .val (.int p5), .val (.int (Int32.ofNat nn)), .val (.int (Int32.ofNat na)), .val (.int (p0.toInt8.toInt32)), .val (.int (p1.toInt8.toInt32)), .val (.int (p2.toInt8.toInt32)), .val (.int (p3.toInt8.toInt32)), .val (.ref b1), .unset, .unset, .unset, .unset, .unset, .unset] [(.ref b48), (.ref b48)]))
        refine Goes.go (fun _ kst => XS.iconst X48.here hx rfl (hb hby at_100) kst) ?_
        show Goes p e below s _ _ _ (T48.setTop (mkF m 101 #[.val (.int p0), .val (.int p1), .val (.int p2), .val (.int p3), .val (.int p4), .val (.int p5), .val (.int (Int32.ofNat nn)), .val (.int (Int32.ofNat na)), .val (.int (p0.toInt8.toInt32)), .val (.int (p1.toInt8.toInt32)), .val (.int (p2.toInt8.toInt32)), .val (.int (p3.toInt8.toInt32)), .val (.ref b1), .unset, .unset, .unset, .unset, .unset, .unset] [(.int (0 : Int32)), (.ref b48), (.ref b48)]))
        refine Goes.go (fun _ kst => XS.iload X48.here hx rfl (hb hby at_101) rfl  kst) ?_
        show Goes p e below s _ _ _ (T48.setTop (mkF m 103 #[.val (.int p0), .val (.int p1), .val (.int p2), .val (.int p3), .val (.int p4), .val (.int p5), .val (.int (Int32.ofNat nn)), .val (.int (Int32.ofNat na)), .val (.int (p0.toInt8.toInt32)), .val (.int (p1.toInt8.toInt32)), .val (.int (p2.toInt8.toInt32)), .val (.int (p3.toInt8.toInt32)), .val (.ref b1), .unset, .unset, .unset, .unset, .unset, .unset] [(.int (p0.toInt8.toInt32)), (.int (0 : Int32)), (.ref b48), (.ref b48)]))
        obtain ⟨T49, h49, X49, e49, W49, A49, st49⟩ := own_stB X48 hx hZ e48 A48 (i := 0) rfl (by decide) (g := (mkF m 103 #[.val (.int p0), .val (.int p1), .val (.int p2), .val (.int p3), .val (.int p4), .val (.int p5), .val (.int (Int32.ofNat nn)), .val (.int (Int32.ofNat na)), .val (.int (p0.toInt8.toInt32)), .val (.int (p1.toInt8.toInt32)), .val (.int (p2.toInt8.toInt32)), .val (.int (p3.toInt8.toInt32)), .val (.ref b1), .unset, .unset, .unset, .unset, .unset, .unset] [(.int (p0.toInt8.toInt32)), (.int (0 : Int32)), (.ref b48), (.ref b48)])) rfl rfl (hb hby at_103)
        have N49 := Fr.snoc X49 N5 gb48
        have Z49 := Nat.le_trans Z48 (Keep.of_wr W49).1
        have K49 := Keep.wr K48 W49 (Or.inr sb48)
        refine Goes.go st49 ?_
        show Goes p e below s _ _ _ (T49.setTop (mkF m 104 #[.val (.int p0), .val (.int p1), .val (.int p2), .val (.int p3), .val (.int p4), .val (.int p5), .val (.int (Int32.ofNat nn)), .val (.int (Int32.ofNat na)), .val (.int (p0.toInt8.toInt32)), .val (.int (p1.toInt8.toInt32)), .val (.int (p2.toInt8.toInt32)), .val (.int (p3.toInt8.toInt32)), .val (.ref b1), .unset, .unset, .unset, .unset, .unset, .unset] [(.ref b48)]))
        refine Goes.go (fun _ kst => XS.dup X49.here hx rfl (hb hby at_104) rfl rfl kst) ?_
        show Goes p e below s _ _ _ (T49.setTop (mkF m 105 #[.val (.int p0), .val (.int p1), .val (.int p2), .val (.int p3), .val (.int p4), .val (.int p5), .val (.int (Int32.ofNat nn)), .val (.int (Int32.ofNat na)), .val (.int (p0.toInt8.toInt32)), .val (.int (p1.toInt8.toInt32)), .val (.int (p2.toInt8.toInt32)), .val (.int (p3.toInt8.toInt32)), .val (.ref b1), .unset, .unset, .unset, .unset, .unset, .unset] [(.ref b48), (.ref b48)]))
        refine Goes.go (fun _ kst => XS.iconst X49.here hx rfl (hb hby at_105) kst) ?_
        show Goes p e below s _ _ _ (T49.setTop (mkF m 106 #[.val (.int p0), .val (.int p1), .val (.int p2), .val (.int p3), .val (.int p4), .val (.int p5), .val (.int (Int32.ofNat nn)), .val (.int (Int32.ofNat na)), .val (.int (p0.toInt8.toInt32)), .val (.int (p1.toInt8.toInt32)), .val (.int (p2.toInt8.toInt32)), .val (.int (p3.toInt8.toInt32)), .val (.ref b1), .unset, .unset, .unset, .unset, .unset, .unset] [(.int (1 : Int32)), (.ref b48), (.ref b48)]))
        refine Goes.go (fun _ kst => XS.iload X49.here hx rfl (hb hby at_106) rfl  kst) ?_
        show Goes p e below s _ _ _ (T49.setTop (mkF m 108 #[.val (.int p0), .val (.int p1), .val (.int p2), .val (.int p3), .val (.int p4), .val (.int p5), .val (.int (Int32.ofNat nn)), .val (.int (Int32.ofNat na)), .val (.int (p0.toInt8.toInt32)), .val (.int (p1.toInt8.toInt32)), .val (.int (p2.toInt8.toInt32)), .val (.int (p3.toInt8.toInt32)), .val (.ref b1), .unset, .unset, .unset, .unset, .unset, .unset] [(.int (p1.toInt8.toInt32)), (.int (1 : Int32)), (.ref b48), (.ref b48)]))
        obtain ⟨T50, h50, X50, e50, W50, A50, st50⟩ := own_stB X49 hx hZ e49 A49 (i := 1) rfl (by decide) (g := (mkF m 108 #[.val (.int p0), .val (.int p1), .val (.int p2), .val (.int p3), .val (.int p4), .val (.int p5), .val (.int (Int32.ofNat nn)), .val (.int (Int32.ofNat na)), .val (.int (p0.toInt8.toInt32)), .val (.int (p1.toInt8.toInt32)), .val (.int (p2.toInt8.toInt32)), .val (.int (p3.toInt8.toInt32)), .val (.ref b1), .unset, .unset, .unset, .unset, .unset, .unset] [(.int (p1.toInt8.toInt32)), (.int (1 : Int32)), (.ref b48), (.ref b48)])) rfl rfl (hb hby at_108)
        have N50 := Fr.snoc X50 N49 gb48
        have Z50 := Nat.le_trans Z49 (Keep.of_wr W50).1
        have K50 := Keep.wr K49 W50 (Or.inr sb48)
        refine Goes.go st50 ?_
        show Goes p e below s _ _ _ (T50.setTop (mkF m 109 #[.val (.int p0), .val (.int p1), .val (.int p2), .val (.int p3), .val (.int p4), .val (.int p5), .val (.int (Int32.ofNat nn)), .val (.int (Int32.ofNat na)), .val (.int (p0.toInt8.toInt32)), .val (.int (p1.toInt8.toInt32)), .val (.int (p2.toInt8.toInt32)), .val (.int (p3.toInt8.toInt32)), .val (.ref b1), .unset, .unset, .unset, .unset, .unset, .unset] [(.ref b48)]))
        refine Goes.go (fun _ kst => XS.astore X50.here hx rfl (hb hby at_109) rfl rfl (l' := #[.val (.int p0), .val (.int p1), .val (.int p2), .val (.int p3), .val (.int p4), .val (.int p5), .val (.int (Int32.ofNat nn)), .val (.int (Int32.ofNat na)), .val (.int (p0.toInt8.toInt32)), .val (.int (p1.toInt8.toInt32)), .val (.int (p2.toInt8.toInt32)), .val (.int (p3.toInt8.toInt32)), .val (.ref b1), .val (.ref b48), .unset, .unset, .unset, .unset, .unset]) rfl kst) ?_
        show Goes p e below s _ _ _ (T50.setTop (mkF m 111 #[.val (.int p0), .val (.int p1), .val (.int p2), .val (.int p3), .val (.int p4), .val (.int p5), .val (.int (Int32.ofNat nn)), .val (.int (Int32.ofNat na)), .val (.int (p0.toInt8.toInt32)), .val (.int (p1.toInt8.toInt32)), .val (.int (p2.toInt8.toInt32)), .val (.int (p3.toInt8.toInt32)), .val (.ref b1), .val (.ref b48), .unset, .unset, .unset, .unset, .unset] []))
        refine Goes.go (fun _ kst => XS.goto X50.here hx rfl (pc0 := 111) (pc' := 168) rfl (hb hby at_111) (by decide) (by decide) kst) ?_
        have hk : nn = 2 := by
          have qhc60_42 := mt (own_inj (i := nn) (n := 0) (by omega) (by decide)).mpr hc60_42
          have qhc74_44 := mt (own_inj (i := nn) (n := 1) (by omega) (by decide)).mpr hc74_44
          have qhc93_47 := (own_inj (i := nn) (n := 2) (by omega) (by decide)).mp hc93_47
          omega
        refine J168 b48 (X50.more (by decide) (by decide)) e50 N50 Z50 K50 (hk ▸ (A50).as (fun i hi => ?_)) (((An6.ext E48).other W49 (Nat.ne_of_lt (Nat.lt_of_lt_of_le An6.lt (Nat.le_of_eq g48.symm)))).other W50 (Nat.ne_of_lt (Nat.lt_of_lt_of_le An6.lt (Nat.le_of_eq g48.symm))))
        subst hvv
        have : i = 0 ∨ i = 1 := by omega
        rcases this with rfl | rfl
        · exact (((own_un (by decide)).trans own_us)).trans (((own_un (by decide)).trans ((own_un (by decide)).trans ((own_un (by decide)).trans own_us)))).symm
        · exact (own_us).trans (((own_un (by decide)).trans ((own_un (by decide)).trans own_us))).symm
      · skip
        refine Goes.go (fun _ kst => XS.icmpYes X5.here hx rfl (pc0 := 93) (pc' := 114) rfl (hb hby at_93) rfl (feq hc93_47).2 (by decide) (by decide) kst) ?_
        show Goes p e below s _ _ _ (T5.setTop (mkF m 114 #[.val (.int p0), .val (.int p1), .val (.int p2), .val (.int p3), .val (.int p4), .val (.int p5), .val (.int (Int32.ofNat nn)), .val (.int (Int32.ofNat na)), .val (.int (p0.toInt8.toInt32)), .val (.int (p1.toInt8.toInt32)), .val (.int (p2.toInt8.toInt32)), .val (.int (p3.toInt8.toInt32)), .val (.ref b1), .unset, .unset, .unset, .unset, .unset, .unset] []))
        refine Goes.go (fun _ kst => XS.iload X5.here hx rfl (hb hby at_114) rfl  kst) ?_
        show Goes p e below s _ _ _ (T5.setTop (mkF m 116 #[.val (.int p0), .val (.int p1), .val (.int p2), .val (.int p3), .val (.int p4), .val (.int p5), .val (.int (Int32.ofNat nn)), .val (.int (Int32.ofNat na)), .val (.int (p0.toInt8.toInt32)), .val (.int (p1.toInt8.toInt32)), .val (.int (p2.toInt8.toInt32)), .val (.int (p3.toInt8.toInt32)), .val (.ref b1), .unset, .unset, .unset, .unset, .unset, .unset] [(.int (Int32.ofNat nn))]))
        refine Goes.go (fun _ kst => XS.iconst X5.here hx rfl (hb hby at_116) kst) ?_
        show Goes p e below s _ _ _ (T5.setTop (mkF m 117 #[.val (.int p0), .val (.int p1), .val (.int p2), .val (.int p3), .val (.int p4), .val (.int p5), .val (.int (Int32.ofNat nn)), .val (.int (Int32.ofNat na)), .val (.int (p0.toInt8.toInt32)), .val (.int (p1.toInt8.toInt32)), .val (.int (p2.toInt8.toInt32)), .val (.int (p3.toInt8.toInt32)), .val (.ref b1), .unset, .unset, .unset, .unset, .unset, .unset] [(.int (3 : Int32)), (.int (Int32.ofNat nn))]))
        by_cases hc117_51 : (Int32.ofNat nn) = (3 : Int32)
        · skip
          refine Goes.go (fun _ kst => XS.icmpNo X5.here hx rfl (hb hby at_117) rfl (teq hc117_51).2 kst) ?_
          show Goes p e below s _ _ _ (T5.setTop (mkF m 120 #[.val (.int p0), .val (.int p1), .val (.int p2), .val (.int p3), .val (.int p4), .val (.int p5), .val (.int (Int32.ofNat nn)), .val (.int (Int32.ofNat na)), .val (.int (p0.toInt8.toInt32)), .val (.int (p1.toInt8.toInt32)), .val (.int (p2.toInt8.toInt32)), .val (.int (p3.toInt8.toInt32)), .val (.ref b1), .unset, .unset, .unset, .unset, .unset, .unset] []))
          refine Goes.go (fun _ kst => XS.iconst X5.here hx rfl (hb hby at_120) kst) ?_
          show Goes p e below s _ _ _ (T5.setTop (mkF m 121 #[.val (.int p0), .val (.int p1), .val (.int p2), .val (.int p3), .val (.int p4), .val (.int p5), .val (.int (Int32.ofNat nn)), .val (.int (Int32.ofNat na)), .val (.int (p0.toInt8.toInt32)), .val (.int (p1.toInt8.toInt32)), .val (.int (p2.toInt8.toInt32)), .val (.int (p3.toInt8.toInt32)), .val (.ref b1), .unset, .unset, .unset, .unset, .unset, .unset] [(.int (3 : Int32))]))
          obtain ⟨T52, h52, X52, e52, E52, A52, EA52, st52⟩ := own_newA X5 hx hZ (hw _ (List.mem_of_getElem? (i := 0) rfl)) e5 (g := (mkF m 121 #[.val (.int p0), .val (.int p1), .val (.int p2), .val (.int p3), .val (.int p4), .val (.int p5), .val (.int (Int32.ofNat nn)), .val (.int (Int32.ofNat na)), .val (.int (p0.toInt8.toInt32)), .val (.int (p1.toInt8.toInt32)), .val (.int (p2.toInt8.toInt32)), .val (.int (p3.toInt8.toInt32)), .val (.ref b1), .unset, .unset, .unset, .unset, .unset, .unset] [(.int (3 : Int32))])) rfl (hb hby at_121) rfl (n := 3) rfl (cap := 3) (Nat.le_refl _) (by decide) (by decide) (by decide) (by decide) (by decide) (by decide : _ = "[B")
          obtain ⟨b52, g52⟩ : ∃ z, z = h5.size := ⟨_, rfl⟩
          rw [← g52] at A52 EA52 st52
          have gb52 : n0 ≤ b52 := Nat.le_trans Z5 (Nat.le_of_eq g52.symm)
          have sb52 : h0.size ≤ b52 := Nat.le_trans K5.1 (Nat.le_of_eq g52.symm)
          have Z52 := Nat.le_trans Z5 E52.1
          have K52 := Keep.ext K5 E52
          refine Goes.go st52 ?_
          show Goes p e below s _ _ _ (T52.setTop (mkF m 123 #[.val (.int p0), .val (.int p1), .val (.int p2), .val (.int p3), .val (.int p4), .val (.int p5), .val (.int (Int32.ofNat nn)), .val (.int (Int32.ofNat na)), .val (.int (p0.toInt8.toInt32)), .val (.int (p1.toInt8.toInt32)), .val (.int (p2.toInt8.toInt32)), .val (.int (p3.toInt8.toInt32)), .val (.ref b1), .unset, .unset, .unset, .unset, .unset, .unset] [(.ref b52)]))
          refine Goes.go (fun _ kst => XS.dup X52.here hx rfl (hb hby at_123) rfl rfl kst) ?_
          show Goes p e below s _ _ _ (T52.setTop (mkF m 124 #[.val (.int p0), .val (.int p1), .val (.int p2), .val (.int p3), .val (.int p4), .val (.int p5), .val (.int (Int32.ofNat nn)), .val (.int (Int32.ofNat na)), .val (.int (p0.toInt8.toInt32)), .val (.int (p1.toInt8.toInt32)), .val (.int (p2.toInt8.toInt32)), .val (.int (p3.toInt8.toInt32)), .val (.ref b1), .unset, .unset, .unset, .unset, .unset, .unset] [(.ref b52), (.ref b52)]))
          refine Goes.go (fun _ kst => XS.iconst X52.here hx rfl (hb hby at_124) kst) ?_
          show Goes p e below s _ _ _ (T52.setTop (mkF m 125 #[.val (.int p0), .val (.int p1), .val (.int p2), .val (.int p3), .val (.int p4), .val (.int p5), .val (.int (Int32.ofNat nn)), .val (.int (Int32.ofNat na)), .val (.int (p0.toInt8.toInt32)), .val (.int (p1.toInt8.toInt32)), .val (.int (p2.toInt8.toInt32)), .val (.int (p3.toInt8.toInt32)), .val (.ref b1), .unset, .unset, .unset, .unset, .unset, .unset] [(.int (0 : Int32)), (.ref b52), (.ref b52)]))
          refine Goes.go (fun _ kst => XS.iload X52.here hx rfl (hb hby at_125) rfl  kst) ?_
          show Goes p e below s _ _ _ (T52.setTop (mkF m 127 #[.val (.int p0), .val (.int p1), .val (.int p2), .val (.int p3), .val (.int p4), .val (.int p5), .val (.int (Int32.ofNat nn)), .val (.int (Int32.ofNat na)), .val (.int (p0.toInt8.toInt32)), .val (.int (p1.toInt8.toInt32)), .val (.int (p2.toInt8.toInt32)), .val (.int (p3.toInt8.toInt32)), .val (.ref b1), .unset, .unset, .unset, .unset, .unset, .unset] [(.int (p0.toInt8.toInt32)), (.int (0 : Int32)), (.ref b52), (.ref b52)]))
          obtain ⟨T53, h53, X53, e53, W53, A53, st53⟩ := own_stB X52 hx hZ e52 A52 (i := 0) rfl (by decide) (g := (mkF m 127 #[.val (.int p0), .val (.int p1), .val (.int p2), .val (.int p3), .val (.int p4), .val (.int p5), .val (.int (Int32.ofNat nn)), .val (.int (Int32.ofNat na)), .val (.int (p0.toInt8.toInt32)), .val (.int (p1.toInt8.toInt32)), .val (.int (p2.toInt8.toInt32)), .val (.int (p3.toInt8.toInt32)), .val (.ref b1), .unset, .unset, .unset, .unset, .unset, .unset] [(.int (p0.toInt8.toInt32)), (.int (0 : Int32)), (.ref b52), (.ref b52)])) rfl rfl (hb hby at_127)
          have N53 := Fr.snoc X53 N5 gb52
          have Z53 := Nat.le_trans Z52 (Keep.of_wr W53).1
          have K53 := Keep.wr K52 W53 (Or.inr sb52)
          refine Goes.go st53 ?_
          show Goes p e below s _ _ _ (T53.setTop (mkF m 128 #[.val (.int p0), .val (.int p1), .val (.int p2), .val (.int p3), .val (.int p4), .val (.int p5), .val (.int (Int32.ofNat nn)), .val (.int (Int32.ofNat na)), .val (.int (p0.toInt8.toInt32)), .val (.int (p1.toInt8.toInt32)), .val (.int (p2.toInt8.toInt32)), .val (.int (p3.toInt8.toInt32)), .val (.ref b1), .unset, .unset, .unset, .unset, .unset, .unset] [(.ref b52)]))
          refine Goes.go (fun _ kst => XS.dup X53.here hx rfl (hb hby at_128) rfl rfl kst) ?_
          show Goes p e below s _ _ _ (T53.setTop (mkF m 129 #[.val (.int p0), .val (.int p1), .val (.int p2), .val (.int p3), .val (.int p4), .val (.int p5), .val (.int (Int32.ofNat nn)), .val (.int (Int32.ofNat na)), .val (.int (p0.toInt8.toInt32)), .val (.int (p1.toInt8.toInt32)), .val (.int (p2.toInt8.toInt32)), .val (.int (p3.toInt8.toInt32)), .val (.ref b1), .unset, .unset, .unset, .unset, .unset, .unset] [(.ref b52), (.ref b52)]))
          refine Goes.go (fun _ kst => XS.iconst X53.here hx rfl (hb hby at_129) kst) ?_
          show Goes p e below s _ _ _ (T53.setTop (mkF m 130 #[.val (.int p0), .val (.int p1), .val (.int p2), .val (.int p3), .val (.int p4), .val (.int p5), .val (.int (Int32.ofNat nn)), .val (.int (Int32.ofNat na)), .val (.int (p0.toInt8.toInt32)), .val (.int (p1.toInt8.toInt32)), .val (.int (p2.toInt8.toInt32)), .val (.int (p3.toInt8.toInt32)), .val (.ref b1), .unset, .unset, .unset, .unset, .unset, .unset] [(.int (1 : Int32)), (.ref b52), (.ref b52)]))
          refine Goes.go (fun _ kst => XS.iload X53.here hx rfl (hb hby at_130) rfl  kst) ?_
          show Goes p e below s _ _ _ (T53.setTop (mkF m 132 #[.val (.int p0), .val (.int p1), .val (.int p2), .val (.int p3), .val (.int p4), .val (.int p5), .val (.int (Int32.ofNat nn)), .val (.int (Int32.ofNat na)), .val (.int (p0.toInt8.toInt32)), .val (.int (p1.toInt8.toInt32)), .val (.int (p2.toInt8.toInt32)), .val (.int (p3.toInt8.toInt32)), .val (.ref b1), .unset, .unset, .unset, .unset, .unset, .unset] [(.int (p1.toInt8.toInt32)), (.int (1 : Int32)), (.ref b52), (.ref b52)]))
          obtain ⟨T54, h54, X54, e54, W54, A54, st54⟩ := own_stB X53 hx hZ e53 A53 (i := 1) rfl (by decide) (g := (mkF m 132 #[.val (.int p0), .val (.int p1), .val (.int p2), .val (.int p3), .val (.int p4), .val (.int p5), .val (.int (Int32.ofNat nn)), .val (.int (Int32.ofNat na)), .val (.int (p0.toInt8.toInt32)), .val (.int (p1.toInt8.toInt32)), .val (.int (p2.toInt8.toInt32)), .val (.int (p3.toInt8.toInt32)), .val (.ref b1), .unset, .unset, .unset, .unset, .unset, .unset] [(.int (p1.toInt8.toInt32)), (.int (1 : Int32)), (.ref b52), (.ref b52)])) rfl rfl (hb hby at_132)
          have N54 := Fr.snoc X54 N53 gb52
          have Z54 := Nat.le_trans Z53 (Keep.of_wr W54).1
          have K54 := Keep.wr K53 W54 (Or.inr sb52)
          refine Goes.go st54 ?_
          show Goes p e below s _ _ _ (T54.setTop (mkF m 133 #[.val (.int p0), .val (.int p1), .val (.int p2), .val (.int p3), .val (.int p4), .val (.int p5), .val (.int (Int32.ofNat nn)), .val (.int (Int32.ofNat na)), .val (.int (p0.toInt8.toInt32)), .val (.int (p1.toInt8.toInt32)), .val (.int (p2.toInt8.toInt32)), .val (.int (p3.toInt8.toInt32)), .val (.ref b1), .unset, .unset, .unset, .unset, .unset, .unset] [(.ref b52)]))
          refine Goes.go (fun _ kst => XS.dup X54.here hx rfl (hb hby at_133) rfl rfl kst) ?_
          show Goes p e below s _ _ _ (T54.setTop (mkF m 134 #[.val (.int p0), .val (.int p1), .val (.int p2), .val (.int p3), .val (.int p4), .val (.int p5), .val (.int (Int32.ofNat nn)), .val (.int (Int32.ofNat na)), .val (.int (p0.toInt8.toInt32)), .val (.int (p1.toInt8.toInt32)), .val (.int (p2.toInt8.toInt32)), .val (.int (p3.toInt8.toInt32)), .val (.ref b1), .unset, .unset, .unset, .unset, .unset, .unset] [(.ref b52), (.ref b52)]))
          refine Goes.go (fun _ kst => XS.iconst X54.here hx rfl (hb hby at_134) kst) ?_
          show Goes p e below s _ _ _ (T54.setTop (mkF m 135 #[.val (.int p0), .val (.int p1), .val (.int p2), .val (.int p3), .val (.int p4), .val (.int p5), .val (.int (Int32.ofNat nn)), .val (.int (Int32.ofNat na)), .val (.int (p0.toInt8.toInt32)), .val (.int (p1.toInt8.toInt32)), .val (.int (p2.toInt8.toInt32)), .val (.int (p3.toInt8.toInt32)), .val (.ref b1), .unset, .unset, .unset, .unset, .unset, .unset] [(.int (2 : Int32)), (.ref b52), (.ref b52)]))
          refine Goes.go (fun _ kst => XS.iload X54.here hx rfl (hb hby at_135) rfl  kst) ?_
          show Goes p e below s _ _ _ (T54.setTop (mkF m 137 #[.val (.int p0), .val (.int p1), .val (.int p2), .val (.int p3), .val (.int p4), .val (.int p5), .val (.int (Int32.ofNat nn)), .val (.int (Int32.ofNat na)), .val (.int (p0.toInt8.toInt32)), .val (.int (p1.toInt8.toInt32)), .val (.int (p2.toInt8.toInt32)), .val (.int (p3.toInt8.toInt32)), .val (.ref b1), .unset, .unset, .unset, .unset, .unset, .unset] [(.int (p2.toInt8.toInt32)), (.int (2 : Int32)), (.ref b52), (.ref b52)]))
          obtain ⟨T55, h55, X55, e55, W55, A55, st55⟩ := own_stB X54 hx hZ e54 A54 (i := 2) rfl (by decide) (g := (mkF m 137 #[.val (.int p0), .val (.int p1), .val (.int p2), .val (.int p3), .val (.int p4), .val (.int p5), .val (.int (Int32.ofNat nn)), .val (.int (Int32.ofNat na)), .val (.int (p0.toInt8.toInt32)), .val (.int (p1.toInt8.toInt32)), .val (.int (p2.toInt8.toInt32)), .val (.int (p3.toInt8.toInt32)), .val (.ref b1), .unset, .unset, .unset, .unset, .unset, .unset] [(.int (p2.toInt8.toInt32)), (.int (2 : Int32)), (.ref b52), (.ref b52)])) rfl rfl (hb hby at_137)
          have N55 := Fr.snoc X55 N54 gb52
          have Z55 := Nat.le_trans Z54 (Keep.of_wr W55).1
          have K55 := Keep.wr K54 W55 (Or.inr sb52)
          refine Goes.go st55 ?_
          show Goes p e below s _ _ _ (T55.setTop (mkF m 138 #[.val (.int p0), .val (.int p1), .val (.int p2), .val (.int p3), .val (.int p4), .val (.int p5), .val (.int (Int32.ofNat nn)), .val (.int (Int32.ofNat na)), .val (.int (p0.toInt8.toInt32)), .val (.int (p1.toInt8.toInt32)), .val (.int (p2.toInt8.toInt32)), .val (.int (p3.toInt8.toInt32)), .val (.ref b1), .unset, .unset, .unset, .unset, .unset, .unset] [(.ref b52)]))
          refine Goes.go (fun _ kst => XS.astore X55.here hx rfl (hb hby at_138) rfl rfl (l' := #[.val (.int p0), .val (.int p1), .val (.int p2), .val (.int p3), .val (.int p4), .val (.int p5), .val (.int (Int32.ofNat nn)), .val (.int (Int32.ofNat na)), .val (.int (p0.toInt8.toInt32)), .val (.int (p1.toInt8.toInt32)), .val (.int (p2.toInt8.toInt32)), .val (.int (p3.toInt8.toInt32)), .val (.ref b1), .val (.ref b52), .unset, .unset, .unset, .unset, .unset]) rfl kst) ?_
          show Goes p e below s _ _ _ (T55.setTop (mkF m 140 #[.val (.int p0), .val (.int p1), .val (.int p2), .val (.int p3), .val (.int p4), .val (.int p5), .val (.int (Int32.ofNat nn)), .val (.int (Int32.ofNat na)), .val (.int (p0.toInt8.toInt32)), .val (.int (p1.toInt8.toInt32)), .val (.int (p2.toInt8.toInt32)), .val (.int (p3.toInt8.toInt32)), .val (.ref b1), .val (.ref b52), .unset, .unset, .unset, .unset, .unset] []))
          refine Goes.go (fun _ kst => XS.goto X55.here hx rfl (pc0 := 140) (pc' := 168) rfl (hb hby at_140) (by decide) (by decide) kst) ?_
          have hk : nn = 3 := by
            have qhc60_42 := mt (own_inj (i := nn) (n := 0) (by omega) (by decide)).mpr hc60_42
            have qhc74_44 := mt (own_inj (i := nn) (n := 1) (by omega) (by decide)).mpr hc74_44
            have qhc93_47 := mt (own_inj (i := nn) (n := 2) (by omega) (by decide)).mpr hc93_47
            have qhc117_51 := (own_inj (i := nn) (n := 3) (by omega) (by decide)).mp hc117_51
            omega
          refine J168 b52 (X55.more (by decide) (by decide)) e55 N55 Z55 K55 (hk ▸ (A55).as (fun i hi => ?_)) ((((An6.ext E52).other W53 (Nat.ne_of_lt (Nat.lt_of_lt_of_le An6.lt (Nat.le_of_eq g52.symm)))).other W54 (Nat.ne_of_lt (Nat.lt_of_lt_of_le An6.lt (Nat.le_of_eq g52.symm)))).other W55 (Nat.ne_of_lt (Nat.lt_of_lt_of_le An6.lt (Nat.le_of_eq g52.symm))))
          subst hvv
          have : i = 0 ∨ i = 1 ∨ i = 2 := by omega
          rcases this with rfl | rfl | rfl
          · exact (((own_un (by decide)).trans ((own_un (by decide)).trans own_us))).trans (((own_un (by decide)).trans ((own_un (by decide)).trans ((own_un (by decide)).trans own_us)))).symm
          · exact (((own_un (by decide)).trans own_us)).trans (((own_un (by decide)).trans ((own_un (by decide)).trans own_us))).symm
          · exact (own_us).trans (((own_un (by decide)).trans own_us)).symm
        · skip
          refine Goes.go (fun _ kst => XS.icmpYes X5.here hx rfl (pc0 := 117) (pc' := 143) rfl (hb hby at_117) rfl (feq hc117_51).2 (by decide) (by decide) kst) ?_
          show Goes p e below s _ _ _ (T5.setTop (mkF m 143 #[.val (.int p0), .val (.int p1), .val (.int p2), .val (.int p3), .val (.int p4), .val (.int p5), .val (.int (Int32.ofNat nn)), .val (.int (Int32.ofNat na)), .val (.int (p0.toInt8.toInt32)), .val (.int (p1.toInt8.toInt32)), .val (.int (p2.toInt8.toInt32)), .val (.int (p3.toInt8.toInt32)), .val (.ref b1), .unset, .unset, .unset, .unset, .unset, .unset] []))
          refine Goes.go (fun _ kst => XS.iconst X5.here hx rfl (hb hby at_143) kst) ?_
          show Goes p e below s _ _ _ (T5.setTop (mkF m 144 #[.val (.int p0), .val (.int p1), .val (.int p2), .val (.int p3), .val (.int p4), .val (.int p5), .val (.int (Int32.ofNat nn)), .val (.int (Int32.ofNat na)), .val (.int (p0.toInt8.toInt32)), .val (.int (p1.toInt8.toInt32)), .val (.int (p2.toInt8.toInt32)), .val (.int (p3.toInt8.toInt32)), .val (.ref b1), .unset, .unset, .unset, .unset, .unset, .unset] [(.int (4 : Int32))]))
          obtain ⟨T56, h56, X56, e56, E56, A56, EA56, st56⟩ := own_newA X5 hx hZ (hw _ (List.mem_of_getElem? (i := 0) rfl)) e5 (g := (mkF m 144 #[.val (.int p0), .val (.int p1), .val (.int p2), .val (.int p3), .val (.int p4), .val (.int p5), .val (.int (Int32.ofNat nn)), .val (.int (Int32.ofNat na)), .val (.int (p0.toInt8.toInt32)), .val (.int (p1.toInt8.toInt32)), .val (.int (p2.toInt8.toInt32)), .val (.int (p3.toInt8.toInt32)), .val (.ref b1), .unset, .unset, .unset, .unset, .unset, .unset] [(.int (4 : Int32))])) rfl (hb hby at_144) rfl (n := 4) rfl (cap := 4) (Nat.le_refl _) (by decide) (by decide) (by decide) (by decide) (by decide) (by decide : _ = "[B")
          obtain ⟨b56, g56⟩ : ∃ z, z = h5.size := ⟨_, rfl⟩
          rw [← g56] at A56 EA56 st56
          have gb56 : n0 ≤ b56 := Nat.le_trans Z5 (Nat.le_of_eq g56.symm)
          have sb56 : h0.size ≤ b56 := Nat.le_trans K5.1 (Nat.le_of_eq g56.symm)
          have Z56 := Nat.le_trans Z5 E56.1
          have K56 := Keep.ext K5 E56
          refine Goes.go st56 ?_
          show Goes p e below s _ _ _ (T56.setTop (mkF m 146 #[.val (.int p0), .val (.int p1), .val (.int p2), .val (.int p3), .val (.int p4), .val (.int p5), .val (.int (Int32.ofNat nn)), .val (.int (Int32.ofNat na)), .val (.int (p0.toInt8.toInt32)), .val (.int (p1.toInt8.toInt32)), .val (.int (p2.toInt8.toInt32)), .val (.int (p3.toInt8.toInt32)), .val (.ref b1), .unset, .unset, .unset, .unset, .unset, .unset] [(.ref b56)]))
          refine Goes.go (fun _ kst => XS.dup X56.here hx rfl (hb hby at_146) rfl rfl kst) ?_
          show Goes p e below s _ _ _ (T56.setTop (mkF m 147 #[.val (.int p0), .val (.int p1), .val (.int p2), .val (.int p3), .val (.int p4), .val (.int p5), .val (.int (Int32.ofNat nn)), .val (.int (Int32.ofNat na)), .val (.int (p0.toInt8.toInt32)), .val (.int (p1.toInt8.toInt32)), .val (.int (p2.toInt8.toInt32)), .val (.int (p3.toInt8.toInt32)), .val (.ref b1), .unset, .unset, .unset, .unset, .unset, .unset] [(.ref b56), (.ref b56)]))
          refine Goes.go (fun _ kst => XS.iconst X56.here hx rfl (hb hby at_147) kst) ?_
          show Goes p e below s _ _ _ (T56.setTop (mkF m 148 #[.val (.int p0), .val (.int p1), .val (.int p2), .val (.int p3), .val (.int p4), .val (.int p5), .val (.int (Int32.ofNat nn)), .val (.int (Int32.ofNat na)), .val (.int (p0.toInt8.toInt32)), .val (.int (p1.toInt8.toInt32)), .val (.int (p2.toInt8.toInt32)), .val (.int (p3.toInt8.toInt32)), .val (.ref b1), .unset, .unset, .unset, .unset, .unset, .unset] [(.int (0 : Int32)), (.ref b56), (.ref b56)]))
          refine Goes.go (fun _ kst => XS.iload X56.here hx rfl (hb hby at_148) rfl  kst) ?_
          show Goes p e below s _ _ _ (T56.setTop (mkF m 150 #[.val (.int p0), .val (.int p1), .val (.int p2), .val (.int p3), .val (.int p4), .val (.int p5), .val (.int (Int32.ofNat nn)), .val (.int (Int32.ofNat na)), .val (.int (p0.toInt8.toInt32)), .val (.int (p1.toInt8.toInt32)), .val (.int (p2.toInt8.toInt32)), .val (.int (p3.toInt8.toInt32)), .val (.ref b1), .unset, .unset, .unset, .unset, .unset, .unset] [(.int (p0.toInt8.toInt32)), (.int (0 : Int32)), (.ref b56), (.ref b56)]))
          obtain ⟨T57, h57, X57, e57, W57, A57, st57⟩ := own_stB X56 hx hZ e56 A56 (i := 0) rfl (by decide) (g := (mkF m 150 #[.val (.int p0), .val (.int p1), .val (.int p2), .val (.int p3), .val (.int p4), .val (.int p5), .val (.int (Int32.ofNat nn)), .val (.int (Int32.ofNat na)), .val (.int (p0.toInt8.toInt32)), .val (.int (p1.toInt8.toInt32)), .val (.int (p2.toInt8.toInt32)), .val (.int (p3.toInt8.toInt32)), .val (.ref b1), .unset, .unset, .unset, .unset, .unset, .unset] [(.int (p0.toInt8.toInt32)), (.int (0 : Int32)), (.ref b56), (.ref b56)])) rfl rfl (hb hby at_150)
          have N57 := Fr.snoc X57 N5 gb56
          have Z57 := Nat.le_trans Z56 (Keep.of_wr W57).1
          have K57 := Keep.wr K56 W57 (Or.inr sb56)
          refine Goes.go st57 ?_
          show Goes p e below s _ _ _ (T57.setTop (mkF m 151 #[.val (.int p0), .val (.int p1), .val (.int p2), .val (.int p3), .val (.int p4), .val (.int p5), .val (.int (Int32.ofNat nn)), .val (.int (Int32.ofNat na)), .val (.int (p0.toInt8.toInt32)), .val (.int (p1.toInt8.toInt32)), .val (.int (p2.toInt8.toInt32)), .val (.int (p3.toInt8.toInt32)), .val (.ref b1), .unset, .unset, .unset, .unset, .unset, .unset] [(.ref b56)]))
          refine Goes.go (fun _ kst => XS.dup X57.here hx rfl (hb hby at_151) rfl rfl kst) ?_
          show Goes p e below s _ _ _ (T57.setTop (mkF m 152 #[.val (.int p0), .val (.int p1), .val (.int p2), .val (.int p3), .val (.int p4), .val (.int p5), .val (.int (Int32.ofNat nn)), .val (.int (Int32.ofNat na)), .val (.int (p0.toInt8.toInt32)), .val (.int (p1.toInt8.toInt32)), .val (.int (p2.toInt8.toInt32)), .val (.int (p3.toInt8.toInt32)), .val (.ref b1), .unset, .unset, .unset, .unset, .unset, .unset] [(.ref b56), (.ref b56)]))
          refine Goes.go (fun _ kst => XS.iconst X57.here hx rfl (hb hby at_152) kst) ?_
          show Goes p e below s _ _ _ (T57.setTop (mkF m 153 #[.val (.int p0), .val (.int p1), .val (.int p2), .val (.int p3), .val (.int p4), .val (.int p5), .val (.int (Int32.ofNat nn)), .val (.int (Int32.ofNat na)), .val (.int (p0.toInt8.toInt32)), .val (.int (p1.toInt8.toInt32)), .val (.int (p2.toInt8.toInt32)), .val (.int (p3.toInt8.toInt32)), .val (.ref b1), .unset, .unset, .unset, .unset, .unset, .unset] [(.int (1 : Int32)), (.ref b56), (.ref b56)]))
          refine Goes.go (fun _ kst => XS.iload X57.here hx rfl (hb hby at_153) rfl  kst) ?_
          show Goes p e below s _ _ _ (T57.setTop (mkF m 155 #[.val (.int p0), .val (.int p1), .val (.int p2), .val (.int p3), .val (.int p4), .val (.int p5), .val (.int (Int32.ofNat nn)), .val (.int (Int32.ofNat na)), .val (.int (p0.toInt8.toInt32)), .val (.int (p1.toInt8.toInt32)), .val (.int (p2.toInt8.toInt32)), .val (.int (p3.toInt8.toInt32)), .val (.ref b1), .unset, .unset, .unset, .unset, .unset, .unset] [(.int (p1.toInt8.toInt32)), (.int (1 : Int32)), (.ref b56), (.ref b56)]))
          obtain ⟨T58, h58, X58, e58, W58, A58, st58⟩ := own_stB X57 hx hZ e57 A57 (i := 1) rfl (by decide) (g := (mkF m 155 #[.val (.int p0), .val (.int p1), .val (.int p2), .val (.int p3), .val (.int p4), .val (.int p5), .val (.int (Int32.ofNat nn)), .val (.int (Int32.ofNat na)), .val (.int (p0.toInt8.toInt32)), .val (.int (p1.toInt8.toInt32)), .val (.int (p2.toInt8.toInt32)), .val (.int (p3.toInt8.toInt32)), .val (.ref b1), .unset, .unset, .unset, .unset, .unset, .unset] [(.int (p1.toInt8.toInt32)), (.int (1 : Int32)), (.ref b56), (.ref b56)])) rfl rfl (hb hby at_155)
          have N58 := Fr.snoc X58 N57 gb56
          have Z58 := Nat.le_trans Z57 (Keep.of_wr W58).1
          have K58 := Keep.wr K57 W58 (Or.inr sb56)
          refine Goes.go st58 ?_
          show Goes p e below s _ _ _ (T58.setTop (mkF m 156 #[.val (.int p0), .val (.int p1), .val (.int p2), .val (.int p3), .val (.int p4), .val (.int p5), .val (.int (Int32.ofNat nn)), .val (.int (Int32.ofNat na)), .val (.int (p0.toInt8.toInt32)), .val (.int (p1.toInt8.toInt32)), .val (.int (p2.toInt8.toInt32)), .val (.int (p3.toInt8.toInt32)), .val (.ref b1), .unset, .unset, .unset, .unset, .unset, .unset] [(.ref b56)]))
          refine Goes.go (fun _ kst => XS.dup X58.here hx rfl (hb hby at_156) rfl rfl kst) ?_
          show Goes p e below s _ _ _ (T58.setTop (mkF m 157 #[.val (.int p0), .val (.int p1), .val (.int p2), .val (.int p3), .val (.int p4), .val (.int p5), .val (.int (Int32.ofNat nn)), .val (.int (Int32.ofNat na)), .val (.int (p0.toInt8.toInt32)), .val (.int (p1.toInt8.toInt32)), .val (.int (p2.toInt8.toInt32)), .val (.int (p3.toInt8.toInt32)), .val (.ref b1), .unset, .unset, .unset, .unset, .unset, .unset] [(.ref b56), (.ref b56)]))
          refine Goes.go (fun _ kst => XS.iconst X58.here hx rfl (hb hby at_157) kst) ?_
          show Goes p e below s _ _ _ (T58.setTop (mkF m 158 #[.val (.int p0), .val (.int p1), .val (.int p2), .val (.int p3), .val (.int p4), .val (.int p5), .val (.int (Int32.ofNat nn)), .val (.int (Int32.ofNat na)), .val (.int (p0.toInt8.toInt32)), .val (.int (p1.toInt8.toInt32)), .val (.int (p2.toInt8.toInt32)), .val (.int (p3.toInt8.toInt32)), .val (.ref b1), .unset, .unset, .unset, .unset, .unset, .unset] [(.int (2 : Int32)), (.ref b56), (.ref b56)]))
          refine Goes.go (fun _ kst => XS.iload X58.here hx rfl (hb hby at_158) rfl  kst) ?_
          show Goes p e below s _ _ _ (T58.setTop (mkF m 160 #[.val (.int p0), .val (.int p1), .val (.int p2), .val (.int p3), .val (.int p4), .val (.int p5), .val (.int (Int32.ofNat nn)), .val (.int (Int32.ofNat na)), .val (.int (p0.toInt8.toInt32)), .val (.int (p1.toInt8.toInt32)), .val (.int (p2.toInt8.toInt32)), .val (.int (p3.toInt8.toInt32)), .val (.ref b1), .unset, .unset, .unset, .unset, .unset, .unset] [(.int (p2.toInt8.toInt32)), (.int (2 : Int32)), (.ref b56), (.ref b56)]))
          obtain ⟨T59, h59, X59, e59, W59, A59, st59⟩ := own_stB X58 hx hZ e58 A58 (i := 2) rfl (by decide) (g := (mkF m 160 #[.val (.int p0), .val (.int p1), .val (.int p2), .val (.int p3), .val (.int p4), .val (.int p5), .val (.int (Int32.ofNat nn)), .val (.int (Int32.ofNat na)), .val (.int (p0.toInt8.toInt32)), .val (.int (p1.toInt8.toInt32)), .val (.int (p2.toInt8.toInt32)), .val (.int (p3.toInt8.toInt32)), .val (.ref b1), .unset, .unset, .unset, .unset, .unset, .unset] [(.int (p2.toInt8.toInt32)), (.int (2 : Int32)), (.ref b56), (.ref b56)])) rfl rfl (hb hby at_160)
          have N59 := Fr.snoc X59 N58 gb56
          have Z59 := Nat.le_trans Z58 (Keep.of_wr W59).1
          have K59 := Keep.wr K58 W59 (Or.inr sb56)
          refine Goes.go st59 ?_
          show Goes p e below s _ _ _ (T59.setTop (mkF m 161 #[.val (.int p0), .val (.int p1), .val (.int p2), .val (.int p3), .val (.int p4), .val (.int p5), .val (.int (Int32.ofNat nn)), .val (.int (Int32.ofNat na)), .val (.int (p0.toInt8.toInt32)), .val (.int (p1.toInt8.toInt32)), .val (.int (p2.toInt8.toInt32)), .val (.int (p3.toInt8.toInt32)), .val (.ref b1), .unset, .unset, .unset, .unset, .unset, .unset] [(.ref b56)]))
          refine Goes.go (fun _ kst => XS.dup X59.here hx rfl (hb hby at_161) rfl rfl kst) ?_
          show Goes p e below s _ _ _ (T59.setTop (mkF m 162 #[.val (.int p0), .val (.int p1), .val (.int p2), .val (.int p3), .val (.int p4), .val (.int p5), .val (.int (Int32.ofNat nn)), .val (.int (Int32.ofNat na)), .val (.int (p0.toInt8.toInt32)), .val (.int (p1.toInt8.toInt32)), .val (.int (p2.toInt8.toInt32)), .val (.int (p3.toInt8.toInt32)), .val (.ref b1), .unset, .unset, .unset, .unset, .unset, .unset] [(.ref b56), (.ref b56)]))
          refine Goes.go (fun _ kst => XS.iconst X59.here hx rfl (hb hby at_162) kst) ?_
          show Goes p e below s _ _ _ (T59.setTop (mkF m 163 #[.val (.int p0), .val (.int p1), .val (.int p2), .val (.int p3), .val (.int p4), .val (.int p5), .val (.int (Int32.ofNat nn)), .val (.int (Int32.ofNat na)), .val (.int (p0.toInt8.toInt32)), .val (.int (p1.toInt8.toInt32)), .val (.int (p2.toInt8.toInt32)), .val (.int (p3.toInt8.toInt32)), .val (.ref b1), .unset, .unset, .unset, .unset, .unset, .unset] [(.int (3 : Int32)), (.ref b56), (.ref b56)]))
          refine Goes.go (fun _ kst => XS.iload X59.here hx rfl (hb hby at_163) rfl  kst) ?_
          show Goes p e below s _ _ _ (T59.setTop (mkF m 165 #[.val (.int p0), .val (.int p1), .val (.int p2), .val (.int p3), .val (.int p4), .val (.int p5), .val (.int (Int32.ofNat nn)), .val (.int (Int32.ofNat na)), .val (.int (p0.toInt8.toInt32)), .val (.int (p1.toInt8.toInt32)), .val (.int (p2.toInt8.toInt32)), .val (.int (p3.toInt8.toInt32)), .val (.ref b1), .unset, .unset, .unset, .unset, .unset, .unset] [(.int (p3.toInt8.toInt32)), (.int (3 : Int32)), (.ref b56), (.ref b56)]))
          obtain ⟨T60, h60, X60, e60, W60, A60, st60⟩ := own_stB X59 hx hZ e59 A59 (i := 3) rfl (by decide) (g := (mkF m 165 #[.val (.int p0), .val (.int p1), .val (.int p2), .val (.int p3), .val (.int p4), .val (.int p5), .val (.int (Int32.ofNat nn)), .val (.int (Int32.ofNat na)), .val (.int (p0.toInt8.toInt32)), .val (.int (p1.toInt8.toInt32)), .val (.int (p2.toInt8.toInt32)), .val (.int (p3.toInt8.toInt32)), .val (.ref b1), .unset, .unset, .unset, .unset, .unset, .unset] [(.int (p3.toInt8.toInt32)), (.int (3 : Int32)), (.ref b56), (.ref b56)])) rfl rfl (hb hby at_165)
          have N60 := Fr.snoc X60 N59 gb56
          have Z60 := Nat.le_trans Z59 (Keep.of_wr W60).1
          have K60 := Keep.wr K59 W60 (Or.inr sb56)
          refine Goes.go st60 ?_
          show Goes p e below s _ _ _ (T60.setTop (mkF m 166 #[.val (.int p0), .val (.int p1), .val (.int p2), .val (.int p3), .val (.int p4), .val (.int p5), .val (.int (Int32.ofNat nn)), .val (.int (Int32.ofNat na)), .val (.int (p0.toInt8.toInt32)), .val (.int (p1.toInt8.toInt32)), .val (.int (p2.toInt8.toInt32)), .val (.int (p3.toInt8.toInt32)), .val (.ref b1), .unset, .unset, .unset, .unset, .unset, .unset] [(.ref b56)]))
          refine Goes.go (fun _ kst => XS.astore X60.here hx rfl (hb hby at_166) rfl rfl (l' := #[.val (.int p0), .val (.int p1), .val (.int p2), .val (.int p3), .val (.int p4), .val (.int p5), .val (.int (Int32.ofNat nn)), .val (.int (Int32.ofNat na)), .val (.int (p0.toInt8.toInt32)), .val (.int (p1.toInt8.toInt32)), .val (.int (p2.toInt8.toInt32)), .val (.int (p3.toInt8.toInt32)), .val (.ref b1), .val (.ref b56), .unset, .unset, .unset, .unset, .unset]) rfl kst) ?_
          have hk : nn = 4 := by
            have qhc60_42 := mt (own_inj (i := nn) (n := 0) (by omega) (by decide)).mpr hc60_42
            have qhc74_44 := mt (own_inj (i := nn) (n := 1) (by omega) (by decide)).mpr hc74_44
            have qhc93_47 := mt (own_inj (i := nn) (n := 2) (by omega) (by decide)).mpr hc93_47
            have qhc117_51 := mt (own_inj (i := nn) (n := 3) (by omega) (by decide)).mpr hc117_51
            omega
          refine J168 b56 (X60.more (by decide) (by decide)) e60 N60 Z60 K60 (hk ▸ (A60).as (fun i hi => ?_)) (((((An6.ext E56).other W57 (Nat.ne_of_lt (Nat.lt_of_lt_of_le An6.lt (Nat.le_of_eq g56.symm)))).other W58 (Nat.ne_of_lt (Nat.lt_of_lt_of_le An6.lt (Nat.le_of_eq g56.symm)))).other W59 (Nat.ne_of_lt (Nat.lt_of_lt_of_le An6.lt (Nat.le_of_eq g56.symm)))).other W60 (Nat.ne_of_lt (Nat.lt_of_lt_of_le An6.lt (Nat.le_of_eq g56.symm))))
          subst hvv
          have : i = 0 ∨ i = 1 ∨ i = 2 ∨ i = 3 := by omega
          rcases this with rfl | rfl | rfl | rfl
          · exact (((own_un (by decide)).trans ((own_un (by decide)).trans ((own_un (by decide)).trans own_us)))).trans (((own_un (by decide)).trans ((own_un (by decide)).trans ((own_un (by decide)).trans own_us)))).symm
          · exact (((own_un (by decide)).trans ((own_un (by decide)).trans own_us))).trans (((own_un (by decide)).trans ((own_un (by decide)).trans own_us))).symm
          · exact (((own_un (by decide)).trans own_us)).trans (((own_un (by decide)).trans own_us)).symm
          · exact (own_us).trans (own_us).symm
set_option maxRecDepth 65536 in
set_option maxHeartbeats 40000000 in
theorem comes_1 {Post : Tables → Env → Array Value → State → Outcome → State → Prop} (hpost : ∀ tb e args s v u, (limb_1_1.after args s (.returned v) u = true ∧ limb_1_2.after args s (.returned v) u = true ∧ True) → FrameEnd s (.returned v) u (Jvm.fieldLocs frame_1_writes args s ++ Jvm.arrayLocs frame_1_arrays args s ++ Jvm.staticLocs frame_1_statics s) 16 128 → Post tb e args s (.returned v) u) :
    ArmFor flags0 classFile x code maxLocals ret World_1 tables_1 room_1 Calls_1 rest_1 Pre_1 Post := by
  intro l hfl _ _ p e ha hc hk s m args below hf hA hF happ hP
  obtain ⟨hcalls, hrest, hpre⟩ := hP
  obtain ⟨-, -, -, hnamed, -, -, -, hat⟩ := (Spec.applies_iff hf).mp happ
  obtain ⟨hg, hn⟩ := and_e (Cond.before_iff.mp (show (Jvm.Cond.and given_1 narrow_1).before args s = true from hpre))
  obtain ⟨gc, gr0⟩ := and_e hg
  obtain ⟨w0, w1, w2, w3, w4, w5, rfl⟩ : ∃ w0 w1 w2 w3 w4 w5 : Value, args = #[w0, w1, w2, w3, w4, w5] := by
    have hs : args.size = 6 := by simpa [Cond.value, given_1] using gc
    obtain ⟨L⟩ := args
    match L, hs with
    | [w0, w1, w2, w3, w4, w5], _ => exact ⟨w0, w1, w2, w3, w4, w5, rfl⟩
  have hw := fun d (hd : d ∈ tables_1) => atoms_spec (ws := Jvm.Cond.code x code maxLocals ret :: tables_1) hat d (List.mem_cons_of_mem _ hd)
  have hfit : Fit s := fun {y c} hc i hi => by
    obtain ⟨ha, rfl⟩ := Array.getElem?_eq_some_iff.mp hc
    have q := List.all_eq_true.mp ((Array.all_eq_true_iff_forall_mem.mp hF) _ (Array.getElem_mem ha)) i (List.mem_range.mpr hi)
    simpa [Array.getElem?_eq_getElem hi] using q
  obtain ⟨ga0, gr1⟩ := and_e gr0
  obtain ⟨i0, ei0⟩ := is_v ga0
  obtain rfl : w0 = (.int i0) := Option.some.inj ei0
  obtain ⟨ga1, gr2⟩ := and_e gr1
  obtain ⟨i1, ei1⟩ := is_v ga1
  obtain rfl : w1 = (.int i1) := Option.some.inj ei1
  obtain ⟨ga2, gr3⟩ := and_e gr2
  obtain ⟨i2, ei2⟩ := is_v ga2
  obtain rfl : w2 = (.int i2) := Option.some.inj ei2
  obtain ⟨ga3, gr4⟩ := and_e gr3
  obtain ⟨i3, ei3⟩ := is_v ga3
  obtain rfl : w3 = (.int i3) := Option.some.inj ei3
  obtain ⟨ga4, gr5⟩ := and_e gr4
  obtain ⟨i4, ei4⟩ := is_v ga4
  obtain rfl : w4 = (.int i4) := Option.some.inj ei4
  obtain ⟨i5, ei5⟩ := is_v gr5
  obtain rfl : w5 = (.int i5) := Option.some.inj ei5
  obtain ⟨x1, y1⟩ := and_e hn
  obtain ⟨x2, y2⟩ := and_e y1
  obtain ⟨x3, x4⟩ := and_e y2
  obtain ⟨dg, S_DG, A_dg⟩ := own_digits (c1 := .tt) (c2 := .tt) (hw _ (List.mem_of_getElem? (i := 3) rfl)) (hw _ (List.mem_of_getElem? (i := 10) rfl)) x1 x2 x3 x4
  obtain ⟨n, o, h1, h2, h3, _, L, rfl, ⟨rfl, N⟩, hq⟩ := rm0 l s _ hw tables_1 i0 i1 i2 i3 i4 i5 dg s.heap s.heap.size (Nat.le_refl _) A_dg S_DG p e ha hc hk s m _ below hf ((Spec.applies_iff_loose hf).mp happ).1 ⟨rfl, State.Warmed39.refl s, rfl⟩ trivial
  refine ⟨n, _, h1, h2, h3, hpost _ _ _ _ _ _ ⟨Cond.after_iff.mpr rfl, Cond.after_iff.mpr (eq_i res_at (Term.int_eval (1)) rfl), trivial⟩ ⟨hq.1, hq.2.1, (hq.2.2.sift fun y hy => Or.inr (N y hy)).mono (by decide) (by decide)⟩⟩
theorem main_1_1 : Claimed_1_1 := comes_1 fun _ _ _ _ _ _ h hF => ⟨h.1, hF⟩
theorem main_1_2 : Claimed_1_2 := comes_1 fun _ _ _ _ _ _ h hF => ⟨h.2.1, hF⟩
end Jvm.Pilot.@@N@@
namespace Jvm.Pilot.@@N@@
open Jvm Jvm.ClassFile Sem Op Lib Jvm.Free Jvm.Stand Jvm.Pilot.@@N@@.Jvm.D
/-! MADE BY PROGRAM (witnessworld.py) out of the Statement's table words and the real class files: 9 classes; the members and pool entries that the words name. The judged class is class 1, her method 3. -/
namespace start1
open Jvm.ClassFile
def u (s : String) : CpInfo := .utf8 (stringToUtf16 s)
/-- a pool by its gaps: so many unusable entries, then the entry; so many at the end -/
def gap : Nat → List CpInfo → List CpInfo
  | 0, r => r
  | n + 1, r => .unusable :: gap n r
def poolList (es : List (Nat × CpInfo)) (last : Nat) : List CpInfo := es.foldr (fun e r => gap e.1 (e.2 :: r)) (gap last [])
def pool (es : List (Nat × CpInfo)) (last : Nat) : Array CpInfo := ⟨poolList es last⟩
def fileOf (pool : Array CpInfo) (this : Nat) (attrs : Array Attribute := #[]) (ms : Array MethodInfo := #[]) (fl : Nat := 33) (sup : Nat := 0) (ifs : Array Nat := #[]) (fds : Array FieldInfo := #[]) : ClassFile where
  minorVersion := 0
  majorVersion := 65
  constantPool := pool
  accessFlags := fl
  thisClass := this
  superClass := sup
  interfaces := ifs
  fields := fds
  methods := ms
  attributes := attrs
def plain (name : String) (sup : Option ClassId) : Class where
  name := name
  kind := .ordinary
  loader := none
  accessFlags := 33
  super := sup
  interfaces := #[]
  cf := none
  fields := #[]
  methods := #[]
  instanceTypes := #[]
  staticTypes := #[]
  resolved := #[]
  callSites := []
  init := .initialized
  statics := none
  mirror := none

def pool0 : Array CpInfo := pool [(5, u "<init>"), (0, u "()V"), (1, .class_ 10), (1, u "java/lang/Object")] 113

def k0m0 : Method := { name := "<init>", desc := "()V", sig := { parameters := [], returnType := none }, accessFlags := 1, code := none }
/-- java/lang/Object -/
def k0 : Class := { plain "java/lang/Object" none with
  accessFlags := 33
  interfaces := #[]
  cf := some (fileOf pool0 8 #[] #[{ accessFlags := 1, nameIndex := 5, descriptorIndex := 6, attributes := #[] }] 33 0 #[] #[])
  fields := #[]
  methods := #[k0m0]
  instanceTypes := #[]
  staticTypes := #[]
  resolved := Array.replicate 124 none
  statics := none }

def pool1 : Array CpInfo := pool [(2, .class_ 4), (1, u "java/lang/Object"), (0, u "<init>"), (0, u "()V"), (0, .methodref 8 9), (0, .class_ 10), (0, .nameAndType 11 12), (0, u "org/cardprobe/HexFormatPinLaw"), (0, u "hexDigit"), (0, u "(I)I"), (0, .methodref 14 15), (0, .class_ 16), (0, .nameAndType 17 18), (0, u "org/cardprobe/Hex"), (0, u "format"), (0, u "([B[BI)I"), (0, .methodref 8 20), (0, .nameAndType 21 22), (0, u "cell"), (0, u "([BIII[BB)Z"), (5, u "law"), (0, u "(IIIIII)Z")] 2

def k1m0 : Method := { name := "<init>", desc := "()V", sig := { parameters := [], returnType := none }, accessFlags := 2, code := none }
def k1c1 : Code := { maxStack := 3, maxLocals := 1, code := method_2_code, exceptionTable := #[], attributes := #[] }
def k1m1 : Method := { name := "hexDigit", desc := "(I)I", sig := { parameters := [.int], returnType := some .int }, accessFlags := 10, code := some k1c1 }
def k1c2 : Code := { maxStack := 3, maxLocals := 12, code := method_3_code, exceptionTable := #[], attributes := #[] }
def k1m2 : Method := { name := "cell", desc := "([BIII[BB)Z", sig := { parameters := [(.array .byte), .int, .int, .int, (.array .byte), .byte], returnType := some .boolean }, accessFlags := 10, code := some k1c2 }
def k1c3 : Code := { maxStack := 7, maxLocals := 19, code := code, exceptionTable := #[], attributes := #[] }
def k1m3 : Method := { name := "law", desc := "(IIIIII)Z", sig := { parameters := [.int, .int, .int, .int, .int, .int], returnType := some .boolean }, accessFlags := 9, code := some k1c3 }
/-- org/cardprobe/HexFormatPinLaw -/
def k1 : Class := { plain "org/cardprobe/HexFormatPinLaw" (some 0) with
  accessFlags := 49
  interfaces := #[]
  cf := some (fileOf pool1 8 #[] #[{ accessFlags := 2, nameIndex := 5, descriptorIndex := 6, attributes := #[] }, { accessFlags := 10, nameIndex := 11, descriptorIndex := 12, attributes := #[] }, { accessFlags := 10, nameIndex := 21, descriptorIndex := 22, attributes := #[] }, { accessFlags := 9, nameIndex := 28, descriptorIndex := 29, attributes := #[] }] 49 2 #[] #[])
  fields := #[]
  methods := #[k1m0, k1m1, k1m2, k1m3]
  instanceTypes := #[]
  staticTypes := #[]
  resolved := Array.replicate 32 none
  statics := none }

def pool2 : Array CpInfo := pool [(2, .class_ 4), (1, u "java/lang/Object"), (0, u "<init>"), (0, u "()V"), (13, .class_ 22), (1, u "org/cardprobe/Hex"), (4, u "VALUES"), (0, u "[I"), (30, u "format"), (0, u "([B[BI)I"), (3, .fieldref 20 65), (0, .nameAndType 66 67), (0, u "DIGITS"), (0, u "[B"), (18, u "LOWER_CASE"), (0, u "I"), (12, .class_ 101), (0, u "org/cardprobe/Hex$Lines")] 18

def k2m0 : Method := { name := "<init>", desc := "()V", sig := { parameters := [], returnType := none }, accessFlags := 2, code := none }
def k2c1 : Code := { maxStack := 5, maxLocals := 4, code := prog_51_method_6_code, exceptionTable := #[], attributes := #[] }
def k2m1 : Method := { name := "format", desc := "([B[BI)I", sig := { parameters := [(.array .byte), (.array .byte), .int], returnType := some .int }, accessFlags := 8, code := some k2c1 }
/-- org/cardprobe/Hex -/
def k2 : Class := { plain "org/cardprobe/Hex" (some 0) with
  accessFlags := 48
  interfaces := #[]
  cf := some (fileOf pool2 20 #[.nestMembers #[100]] #[{ accessFlags := 2, nameIndex := 5, descriptorIndex := 6, attributes := #[] }, { accessFlags := 8, nameIndex := 59, descriptorIndex := 60, attributes := #[] }] 48 2 #[] #[{ accessFlags := 26, nameIndex := 66, descriptorIndex := 67, attributes := #[] }, { accessFlags := 26, nameIndex := 86, descriptorIndex := 87, attributes := #[] }, { accessFlags := 26, nameIndex := 27, descriptorIndex := 28, attributes := #[] }])
  fields := #[{ name := "DIGITS", type := (.array .byte), accessFlags := 26, slot := 0, constantValue := 0 }, { name := "LOWER_CASE", type := .int, accessFlags := 26, slot := 1, constantValue := 0 }, { name := "VALUES", type := (.array .int), accessFlags := 26, slot := 2, constantValue := 0 }]
  methods := #[k2m0, k2m1]
  instanceTypes := #[]
  staticTypes := #[(.array .byte), .int, (.array .int)]
  resolved := Array.replicate 120 none
  statics := some 0 }

def pool3 : Array CpInfo := pool [(1, u "java/lang/Cloneable"), (0, .class_ 1), (0, u "java/lang/Object"), (0, .class_ 3)] 3

/-- java/lang/Cloneable -/
def k3 : Class := { plain "java/lang/Cloneable" (some 0) with
  accessFlags := 1537
  interfaces := #[]
  cf := some (fileOf pool3 2 #[] #[] 1537 4 #[] #[])
  fields := #[]
  methods := #[]
  instanceTypes := #[]
  staticTypes := #[]
  resolved := Array.replicate 8 none
  statics := none }

def pool4 : Array CpInfo := pool [(1, u "java/io/Serializable"), (0, .class_ 1), (0, u "java/lang/Object"), (0, .class_ 3)] 3

/-- java/io/Serializable -/
def k4 : Class := { plain "java/io/Serializable" (some 0) with
  accessFlags := 1537
  interfaces := #[]
  cf := some (fileOf pool4 2 #[] #[] 1537 4 #[] #[])
  fields := #[]
  methods := #[]
  instanceTypes := #[]
  staticTypes := #[]
  resolved := Array.replicate 8 none
  statics := none }

/-- the primitive byte -/
def k5 : Class := { plain "byte" none with kind := .primitive 'B', accessFlags := 0x411 }
/-- [B -/
def k6 : Class := { plain "[B" (some 0) with kind := .array 5 .byte, interfaces := #[3, 4], accessFlags := 1041 }

/-- the primitive int -/
def k7 : Class := { plain "int" none with kind := .primitive 'I', accessFlags := 0x411 }
/-- [I -/
def k8 : Class := { plain "[I" (some 0) with kind := .array 7 .int, interfaces := #[3, 4], accessFlags := 1041 }

def heap : Heap := #[{ cls := 2, slots := #[.ref 1, .int 0, .null], vm := .statics 2 },
  { cls := 6, slots := #[.int 48, .int 49, .int 50, .int 51, .int 52, .int 53, .int 54, .int 55, .int 56, .int 57, .int 65, .int 66, .int 67, .int 68, .int 69, .int 70], vm := .none }]
def classes : Array Class := #[k0, k1, k2, k3, k4, k5, k6, k7, k8]
def interned : List (Array UInt16 × Addr) := []
def slotsUsed : Nat := 19
def theMethod : MethodId := ⟨1, 3⟩
def args0 : Array Value := #[.int 5, .int 5, .int 5, .int 5, .int 5, .int 5]
def aboutOver (below : List Frame) : State where
  vm := { classes := classes, interned := interned.toArray }
  heap := heap
  slotsUsed := slotsUsed
  threads := #[{ frames := .invoking theMethod args0 :: below }]
def below0 : List Frame := [.native { method := ⟨0, 0⟩, args := #[] }]
def about1 : State := aboutOver below0
def p0 : Program := .bare "" "" ""
def e0 : Env := launch0.env 0 0 0
theorem w_frames : about1.frames = Frame.invoking theMethod args0 :: below0 := rfl
set_option maxRecDepth 65536 in
theorem w_args : argsFit about1.vm theMethod args0 = true := by decide +kernel
set_option maxRecDepth 65536 in
theorem w_heap : heapFits about1 = true := by decide +kernel
set_option maxRecDepth 65536 in
theorem w_runnable : about1.curStatus? = some .runnable := by decide +kernel
set_option maxRecDepth 65536 in
theorem w_alone : about1.alone = true := by decide +kernel
set_option maxRecDepth 65536 in
theorem w_named : about1.methodNamed? x = some theMethod := by decide +kernel
set_option maxRecDepth 65536 in
theorem w_hears : about1.hears theMethod below0 = true := by decide +kernel
set_option maxRecDepth 65536 in
theorem w_ripe : about1.ripe theMethod args0 below0 = true := by decide +kernel
theorem w_running : about1.status = .running := rfl
set_option maxRecDepth 65536 in
theorem w_room : about1.hasRoom e0.platform room_1 = true :=
  launch0.hasRoom_least _ room_1 (by decide +kernel) (by decide +kernel) (by decide +kernel) (by decide +kernel) (by decide +kernel) (by decide +kernel)
theorem allAtoms_all (ts : List Jvm.Cond) (a : Array Jvm.Value) (st : Jvm.State) : (allAtoms ts).before a st = ts.all (fun c => c.before a st) := by
  induction ts with
  | nil => rfl
  | cons c t ih =>
    show (Jvm.Cond.and c (allAtoms t)).before a st = _
    rw [Jvm.Cond.before_and, ih, List.all_cons]
def words1 : List Jvm.Cond := Jvm.Cond.code x code maxLocals ret :: tables_1
/-- a 'code' word, met by the world's own term for the bytes: nothing is compared byte by byte -/
theorem code_word {y : MethodName} {bytes : ByteArray} {mx : Nat} {rt : Option FieldType} {a : Array Value} {s : State} {m : MethodId} {meth : Method} {c : Code} (h1 : s.methodNamed? y = some m) (h2 : s.vm.method? m = some meth) (h3 : meth.code = some c) (h4 : c.code = bytes)
    (h5 : (c.maxLocals == mx && c.exceptionTable.isEmpty && decide (c.maxStack ≤ mostOperands) && decide (meth.sig.returnType = rt) && !meth.locks && decide (parseMethodDescriptor y.desc = some meth.sig)) = true) : (Jvm.Cond.code y bytes mx rt).before a s = true := by
  simp only [Bool.and_eq_true, beq_iff_eq, Bool.not_eq_true', decide_eq_true_eq] at h5
  obtain ⟨⟨⟨⟨⟨g1, g2⟩, g3⟩, g4⟩, g5⟩, g6⟩ := h5
  simp [Cond.before, Cond.holds, Cond.value, h1, h2, h3, h4, g1, g2, g3, g4, g5, g6]
def isCode : Jvm.Cond → Bool
  | .code _ _ _ _ => true
  | _ => false
theorem all_split {L : List Jvm.Cond} {P : Jvm.Cond → Bool} (h1 : L.all (fun c => isCode c || P c) = true) (h2 : ∀ c ∈ L.filter isCode, P c = true) : L.all P = true := by
  refine List.all_eq_true.mpr fun c hc => ?_
  have h := List.all_eq_true.mp h1 c hc
  rcases Bool.eq_false_or_eq_true (isCode c) with hi | hi
  · exact h2 c (List.mem_filter.mpr ⟨hc, hi⟩)
  · simpa [hi] using h
set_option maxRecDepth 65536 in
theorem w_c0 : (Jvm.Cond.code x code maxLocals ret).before args0 about1 = true := code_word (m := ⟨1, 3⟩) (meth := k1m3) (c := k1c3) (by decide +kernel) rfl rfl rfl (by decide +kernel)
set_option maxRecDepth 65536 in
theorem w_c1 : (Jvm.Cond.code ({ cls := "org/cardprobe/Hex", name := "format", desc := "([B[BI)I" } : Jvm.MethodName) prog_51_method_6_code (4 : Nat) (Option.some Jvm.ClassFile.FieldType.int)).before args0 about1 = true := code_word (m := ⟨2, 1⟩) (meth := k2m1) (c := k2c1) (by decide +kernel) rfl rfl rfl (by decide +kernel)
set_option maxRecDepth 65536 in
theorem w_c2 : (Jvm.Cond.code ({ cls := "org/cardprobe/HexFormatPinLaw", name := "cell", desc := "([BIII[BB)Z" } : Jvm.MethodName) method_3_code (12 : Nat) (Option.some Jvm.ClassFile.FieldType.boolean)).before args0 about1 = true := code_word (m := ⟨1, 2⟩) (meth := k1m2) (c := k1c2) (by decide +kernel) rfl rfl rfl (by decide +kernel)
set_option maxRecDepth 65536 in
theorem w_c3 : (Jvm.Cond.code ({ cls := "org/cardprobe/HexFormatPinLaw", name := "hexDigit", desc := "(I)I" } : Jvm.MethodName) method_2_code (1 : Nat) (Option.some Jvm.ClassFile.FieldType.int)).before args0 about1 = true := code_word (m := ⟨1, 1⟩) (meth := k1m1) (c := k1c1) (by decide +kernel) rfl rfl rfl (by decide +kernel)
def codes1 : List Jvm.Cond := [Jvm.Cond.code x code maxLocals ret, Jvm.Cond.code ({ cls := "org/cardprobe/Hex", name := "format", desc := "([B[BI)I" } : Jvm.MethodName) prog_51_method_6_code (4 : Nat) (Option.some Jvm.ClassFile.FieldType.int), Jvm.Cond.code ({ cls := "org/cardprobe/HexFormatPinLaw", name := "cell", desc := "([BIII[BB)Z" } : Jvm.MethodName) method_3_code (12 : Nat) (Option.some Jvm.ClassFile.FieldType.boolean), Jvm.Cond.code ({ cls := "org/cardprobe/HexFormatPinLaw", name := "hexDigit", desc := "(I)I" } : Jvm.MethodName) method_2_code (1 : Nat) (Option.some Jvm.ClassFile.FieldType.int)]
set_option maxRecDepth 65536 in
theorem codes_eq : words1.filter isCode = codes1 := rfl
theorem w_codes : ∀ c ∈ words1.filter isCode, c.before args0 about1 = true := by
  rw [codes_eq]
  intro c hc
  simp only [codes1, List.mem_cons, List.not_mem_nil, or_false] at hc
  rcases hc with rfl | rfl | rfl | rfl
  · exact w_c0
  · exact w_c1
  · exact w_c2
  · exact w_c3
set_option maxRecDepth 65536 in
theorem w_t1 : words1.all (fun c => isCode c || c.before args0 about1) = true := by decide +kernel
theorem w_tables : (allAtoms (Jvm.Cond.code x code maxLocals ret :: tables_1)).before args0 about1 = true := by
  rw [allAtoms_all]
  show words1.all (fun c => c.before args0 about1) = true
  refine all_split ?_ w_codes
  rw [w_t1]
set_option maxRecDepth 65536 in
theorem w_case : (Jvm.Cond.and given_1 narrow_1).before args0 about1 = true := by decide +kernel
theorem w_applies : (headSpec (Jvm.Cond.code x code maxLocals ret :: tables_1) room_1).applies x e0.platform about1 = true :=
  (Spec.applies_iff w_frames).mpr ⟨w_running, w_runnable, w_alone, w_named, w_hears, w_ripe, w_room, w_tables⟩
theorem atStart : AtStart classFile x code maxLocals ret World_1 tables_1 room_1 Calls_1 rest_1 Pre_1 launch0 p0 e0 about1 theMethod args0 below0 :=
  ⟨lists_1, trivial, launch0.admits_env _ _ _, launch0.least_env, fairChoices_fair.cas, fairChoices_fair.clock, w_frames, w_args, w_heap, w_applies, trivial, trivial, w_case⟩
end start1
theorem witness_1 : WitnessClaimed_1 := ⟨start1.p0, start1.e0, start1.about1, start1.theMethod, start1.args0, start1.below0, start1.atStart⟩
end Jvm.Pilot.@@N@@
