import JvmDerived
import JvmDerived.Pilot.@@N@@Statement
import JvmDerived.Pilot.@@N@@Code
set_option linter.unusedVariables false
set_option linter.unusedSimpArgs false
@@BLOCK:NumsL.lean.txt@@
namespace Jvm.RoadKit
open Sem ClassFile Op Lib Jvm.Stand Jvm.Free Jvm.LawKit
section Goes
variable {p : Program} {l : Launch} {e : Env} {R : Room} {s : State} {m : MethodId} {args : Array Value} {below : List Frame} {meth : Method} {c : Code} {T : State} {locs : List Loc} {cells slots : Nat}
/-- from here the run comes to its return, and Q holds there -/
def Goes (p : Program) (e : Env) (below : List Frame) (s : State) (Q : Option Value → Heap → List Loc → Prop) (kc ks : Nat) (S : State) : Prop :=
  ∃ s₂ o, Steps p.tables e below S s₂ ∧ s₂.status = .running ∧ Ended s₂ below o ∧ ∃ v L, o = .returned v ∧ Q v s₂.heap L ∧ FrameEnd s o s₂ L kc ks
variable {Q Q' : Option Value → Heap → List Loc → Prop} {kc ks : Nat} {A B : State}
theorem Goes.go (h : ∀ t, Steps p.tables e below A t → Steps p.tables e below B t) (g : Goes p e below s Q kc ks A) : Goes p e below s Q kc ks B := by
  obtain ⟨s2, o, h1, h2⟩ := g
  exact ⟨s2, o, h _ h1, h2⟩
theorem Goes.tr (h : Steps p.tables e below B A) (g : Goes p e below s Q kc ks A) : Goes p e below s Q kc ks B := g.go fun _ k => h.trans k
theorem Goes.weaken (h : ∀ v hp L, Q' v hp L → Q v hp L) (g : Goes p e below s Q' kc ks A) : Goes p e below s Q kc ks A := by
  obtain ⟨s2, o, h1, h2, h3, v, L, h4, h5, h6⟩ := g
  exact ⟨s2, o, h1, h2, h3, v, L, h4, h _ _ _ h5, h6⟩
theorem Goes.castQ (h : Q = Q') (g : Goes p e below s Q' kc ks A) : Goes p e below s Q kc ks A := h ▸ g
theorem Goes.out (X : Stand p l e R s m args below meth c T locs cells slots) (hlk : meth.locks = false) {v : Option Value} (hv : meth.sig.returnType = none → v = none) {F : State}
    (hstep : ∀ fs, (∀ (f : JFrame) (acts : List Action), f.method = m → f.locked = none → f.entered = [] → (doReturn e (T.setTop f) acts v).1 = T.setFrames fs) → Steps p.tables e below F (T.setFrames fs))
    (hq : Q v T.heap locs) (hc : cells ≤ kc) (hs : slots ≤ ks) : Goes p e below s Q kc ks F := by
  obtain ⟨fs, hr, hrun, hended, hW, hsame⟩ := X.leave (v := v) hv hlk
  exact ⟨_, _, hstep fs hr, hrun, hended, _, _, rfl, hq, ⟨_, rfl⟩, hW, hsame.mono hc hs⟩
theorem retI (X : Stand p l e R s m args below meth c T locs cells slots) (hx : p.tables.exec = Jvm.exec) {pc : Nat} {Ls : Array Slot} {z : Int32} {rest : List Value} (hret : meth.sig.returnType = some .int) (hd : decode c.code pc = .ok (.ireturn, 1)) {fs : List Frame}
    (hl : ∀ (f : JFrame) (acts : List Action), f.method = m → f.locked = none → f.entered = [] → (doReturn e (T.setTop f) acts (some (.int z))).1 = T.setFrames fs) : Steps p.tables e below (T.setTop (mkF m pc Ls (.int z :: rest))) (T.setFrames fs) := by
  have hm' : T.vm.method? m = some meth := X.method'
  have hn : narrow .int (.int z) = .int z := rfl
  show Steps p.tables e below (T.setTop { method := m, pc := pc, locals := Ls, stack := _ :: rest, locked := none }) _
  jvm_step X.here [X.here.top, hx, hd, hm', hret, hn]
  first | (intro acts; rw [hl _ acts rfl rfl rfl]) | rw [hl _ _ rfl rfl rfl]
  exact Steps.refl _
theorem Goes.retI (X : Stand p l e R s m args below meth c T locs cells slots) (hx : p.tables.exec = Jvm.exec) (hlk : meth.locks = false) (hret : meth.sig.returnType = some .int) {pc : Nat} {Ls : Array Slot} {z : Int32} {rest : List Value} (hd : decode c.code pc = .ok (.ireturn, 1))
    (hq : Q (some (.int z)) T.heap locs) (hc : cells ≤ kc) (hs : slots ≤ ks) : Goes p e below s Q kc ks (T.setTop (mkF m pc Ls (.int z :: rest))) :=
  Goes.out X hlk (fun h => by rw [hret] at h; cases h) (fun fs hr => Jvm.RoadKit.retI X hx hret hd hr) hq hc hs
theorem Goes.retN (t : FieldType) (X : Stand p l e R s m args below meth c T locs cells slots) (hx : p.tables.exec = Jvm.exec) (hlk : meth.locks = false) (hret : meth.sig.returnType = some t) (ht : t = .boolean ∨ t = .byte ∨ t = .char ∨ t = .short) {pc : Nat} {Ls : Array Slot} {z : Int32} {rest : List Value} (hd : decode c.code pc = .ok (.ireturn, 1))
    (hq : Q (some (.int (nar t z))) T.heap locs) (hc : cells ≤ kc) (hs : slots ≤ ks) : Goes p e below s Q kc ks (T.setTop (mkF m pc Ls (.int z :: rest))) :=
  Goes.out X hlk (fun h => by rw [hret] at h; cases h) (fun fs hr => Jvm.RoadKit.retN X hx hret ht hd hr) hq hc hs
theorem Goes.ret0 (X : Stand p l e R s m args below meth c T locs cells slots) (hx : p.tables.exec = Jvm.exec) (hlk : meth.locks = false) (hret : meth.sig.returnType = none) {pc : Nat} {Ls : Array Slot} (hd : decode c.code pc = .ok (.return_, 1))
    (hq : Q none T.heap locs) (hc : cells ≤ kc) (hs : slots ≤ ks) : Goes p e below s Q kc ks (T.setTop (mkF m pc Ls [])) :=
  Goes.out X hlk (fun _ => rfl) (fun fs hr => X.returnOut hx hret hd hr) hq hc hs
theorem Goes.retJ (X : Stand p l e R s m args below meth c T locs cells slots) (hx : p.tables.exec = Jvm.exec) (hlk : meth.locks = false) (hret : meth.sig.returnType = some .long) {pc : Nat} {Ls : Array Slot} {z : Int64} (hd : decode c.code pc = .ok (.lreturn, 1))
    (hq : Q (some (.long z)) T.heap locs) (hc : cells ≤ kc) (hs : slots ≤ ks) : Goes p e below s Q kc ks (T.setTop (mkF m pc Ls [.long z])) :=
  Goes.out X hlk (fun h => by rw [hret] at h; cases h) (fun fs hr => X.lreturnOut hx hret hd hr) hq hc hs
theorem Goes.retA (X : Stand p l e R s m args below meth c T locs cells slots) (hx : p.tables.exec = Jvm.exec) (hlk : meth.locks = false) {w : Value} (hw : w.isRef = true) {t : FieldType} (hret : meth.sig.returnType = some t) (ht : t.isReference = true) {pc : Nat} {Ls : Array Slot} (hd : decode c.code pc = .ok (.areturn, 1))
    (hq : Q (some w) T.heap locs) (hc : cells ≤ kc) (hs : slots ≤ ks) : Goes p e below s Q kc ks (T.setTop (mkF m pc Ls [w])) :=
  Goes.out X hlk (fun h => by rw [hret] at h; cases h) (fun fs hr => X.areturnOut hx hw hret ht hd hr) hq hc hs
/-- the answer of a method that writes nothing -/
def Qp (z : Value) (h0 : Heap) (n0 : Nat) (v : Option Value) (h : Heap) (L : List Loc) : Prop := v = some z ∧ Fr n0 L ∧ h = h0
/-- the answer of a method that writes nothing and returns nothing -/
def Qn (h0 : Heap) (n0 : Nat) (v : Option Value) (h : Heap) (L : List Loc) : Prop := v = none ∧ Fr n0 L ∧ h = h0
theorem Goes.qi {z z' : Int32} {h0 : Heap} {n0 : Nat} (h : z = z') (g : Goes p e below s (Qp (.int z') h0 n0) kc ks A) : Goes p e below s (Qp (.int z) h0 n0) kc ks A := h ▸ g
theorem Goes.qj {z z' : Int64} {h0 : Heap} {n0 : Nat} (h : z = z') (g : Goes p e below s (Qp (.long z') h0 n0) kc ks A) : Goes p e below s (Qp (.long z) h0 n0) kc ks A := h ▸ g
end Goes
end Jvm.RoadKit
namespace Jvm.RoadKit
open Sem ClassFile Op Lib Jvm.Stand Jvm.Free Jvm.LawKit
/-- an array of ints (bytes, chars, booleans): its length and what each place holds -/
def IA (Z : State) (h : Heap) (a : Addr) (ty : FieldType) (n : Nat) (f : Nat → Int32) : Prop :=
  ∃ c : Cell, Arr Z h a c ty ∧ c.slots.size = n ∧ n < 2 ^ 31 ∧ ∀ i, i < n → c.slots[i]? = some (.int (f i)) ∧ fits ty (.int (f i)) = true
def own_upd (f : Nat → Int32) (i : Nat) (v : Int32) : Nat → Int32 := fun k => if k = i then v else f k
section IAs
variable {p : Program} {l : Launch} {e : Env} {R : Room} {s : State} {m : MethodId} {args : Array Value} {below : List Frame} {meth : Method} {c : Code} {T : State} {locs : List Loc} {cells slots : Nat} {Z : State} {a0 : Array Value} {h h' : Heap} {a b : Addr} {ty : FieldType} {n : Nat} {f f' : Nat → Int32} {sl : Nat} {v : Value} {ws : List Addr}
theorem IA.lt (F : IA Z h a ty n f) : a < h.size := by obtain ⟨c, A, -⟩ := F; exact A.lt
theorem IA.ext (F : IA Z h a ty n f) (E : Ext h h') : IA Z h' a ty n f := by obtain ⟨c, A, r⟩ := F; exact ⟨c, A.ext E, r⟩
theorem IA.other (F : IA Z h b ty n f) (W : Wr h h' a sl v) (q : b ≠ a) : IA Z h' b ty n f := by obtain ⟨c, A, r⟩ := F; exact ⟨c, A.other W q, r⟩
theorem IA.keep (F : IA Z h a ty n f) (K : Keep h h' ws) (q : a ∉ ws) : IA Z h' a ty n f := by obtain ⟨c, A, r⟩ := F; exact ⟨c, ⟨K.2.1 a c A.1 q, A.2⟩, r⟩
theorem IA.as (F : IA Z h a ty n f) (q : ∀ i, i < n → f i = f' i) : IA Z h a ty n f' := by
  obtain ⟨c, A, S, M, H⟩ := F
  exact ⟨c, A, S, M, fun i hi => by rw [← q i hi]; exact H i hi⟩
theorem IA.bound (F : IA Z h a ty n f) : n < 2 ^ 31 := by obtain ⟨c, A, S, M, H⟩ := F; exact M
theorem own_nat {i : Nat} (hi : i < 2 ^ 31) : (Int32.ofNat i).toInt = i := Int32.toInt_ofNat_of_lt (by omega)
theorem own_cl {i : Nat} (hi : i < 2 ^ 31) : (Int32.ofNat i).toNatClampNeg = i := by
  have := own_nat hi
  show (Int32.ofNat i).toInt.toNat = i
  omega
theorem own_in {i : Nat} (hi : i < n) (hn : n < 2 ^ 31) : ¬ (Int32.ofNat i < 0 ∨ n ≤ (Int32.ofNat i).toNatClampNeg) := by
  rw [own_cl (by omega)]
  rintro (q | q)
  · have := Int32.lt_iff_toInt_lt.mp q
    rw [own_nat (by omega)] at this
    have z : (0 : Int32).toInt = 0 := rfl
    omega
  · omega
theorem IA.set {c : Cell} (A : Arr Z h a c ty) (S : c.slots.size = n) (M : n < 2 ^ 31) (H : ∀ i, i < n → c.slots[i]? = some (.int (f i)) ∧ fits ty (.int (f i)) = true) {i : Nat} (hi : i < n) {x : Int32} (hx : fits ty (.int x) = true) (W : Wr h h' a i (.int x)) : IA Z h' a ty n (own_upd f i x) := by
  refine ⟨c.setSlot i (.int x), A.same W, by rw [sz_set]; exact S, M, fun k hk => ?_⟩
  by_cases q : k = i
  · subst q
    simp only [own_upd, if_pos]
    exact ⟨by simp [Cell.setSlot, S, hk], hx⟩
  · simp only [own_upd, if_neg q]
    refine ⟨?_, (H k hk).2⟩
    rw [← (H k hk).1]
    simp only [Cell.setSlot]
    exact Array.getElem?_setIfInBounds_ne (Ne.symm q)
theorem own_newA (X : Stand p l e R s m args below meth c T locs cells slots) (hx : p.tables.exec = Jvm.exec) (hZ : Z.Warmed39 s.vm) {aty : ArrayType} (w : (Cond.arrayClass (newarray.typeOf aty)).before a0 Z = true) (eT : T.heap = h) {g : JFrame} (hg : g.method = m) (hd : decode c.code g.pc = .ok (.newarray aty, 2)) {z : Int32} {rest : List Value} (hs : g.stack = .int z :: rest)
    {n : Nat} (hz : z = Int32.ofNat n) {cap : Nat} (hcap : n ≤ cap) (hb : cap * 8 ≤ 536870912) (hc : cells + 1 ≤ R.cells) (hl : slots + cap ≤ R.slots) (hdv : defaultValue (newarray.typeOf aty) = .int 0) (hft : fits (newarray.typeOf aty) (.int 0) = true) {ad : String} (had : "[" ++ (newarray.typeOf aty).toString = ad) :
    ∃ T' h', Stand p l e R s m args below meth c T' locs (cells + 1) (slots + cap) ∧ T'.heap = h' ∧ Ext h h' ∧ IA Z h' h.size (newarray.typeOf aty) n (fun _ => 0) ∧ Exa Z h' h.size ad ∧
      ∀ target, Steps p.tables e below (T'.setTop { g with pc := g.pc + 2, stack := .ref h.size :: rest }) target → Steps p.tables e below (T.setTop g) target := by
  have hn31 : n < 2 ^ 31 := by omega
  have hcl : z.toNatClampNeg = n := by rw [hz]; exact own_cl hn31
  have hneg : ¬ z < 0 := by
    rw [hz]; intro q
    have := Int32.lt_iff_toInt_lt.mp q
    rw [own_nat hn31] at this
    have z : (0 : Int32).toInt = 0 := rfl
    omega
  obtain ⟨T', h', cA, X', e', E, A, EX, st⟩ := newPE X hx hZ w eT hg hd hs hneg (cap := cap) (by rw [hcl]; exact hcap) hb hc hl had
  refine ⟨T', h', X', e', E, ⟨_, A, by rw [sz_new]; exact hcl, hn31, fun i hi => ⟨?_, hft⟩⟩, EX, st⟩
  have := get_new (cA := cA) (ty := newarray.typeOf aty) (n := z) (k := Int32.ofNat i) (by rw [hcl]; exact own_in hi hn31)
  rw [own_cl (by omega), hdv] at this
  exact this
theorem own_stI (X : Stand p l e R s m args below meth c T locs cells slots) (hx : p.tables.exec = Jvm.exec) (hZ : Z.Warmed39 s.vm) (eT : T.heap = h) (A : IA Z h a .int n f) {j x : Int32} {i : Nat} (hj : j = Int32.ofNat i) (hi : i < n) {g : JFrame} (hg : g.method = m) {rest : List Value} (hs : g.stack = .int x :: .int j :: .ref a :: rest) (hd : decode c.code g.pc = .ok (.iastore, 1)) :
    ∃ T' h', Stand p l e R s m args below meth c T' (locs ++ [⟨a, i⟩]) cells slots ∧ T'.heap = h' ∧ Wr h h' a i (.int x) ∧ IA Z h' a .int n (own_upd f i x) ∧ ∀ target, Steps p.tables e below (T'.setTop { g with pc := g.pc + 1, stack := rest }) target → Steps p.tables e below (T.setTop g) target := by
  obtain ⟨cl, A, S, M, H⟩ := A
  subst hj
  obtain ⟨T', h', X', e', W, st⟩ := stI X hx hZ eT A (j := Int32.ofNat i) (by rw [S]; exact own_in hi M) hg hs hd
  rw [own_cl (by omega)] at X' W
  exact ⟨T', h', X', e', W, IA.set A S M H hi rfl W, st⟩
theorem own_stB (X : Stand p l e R s m args below meth c T locs cells slots) (hx : p.tables.exec = Jvm.exec) (hZ : Z.Warmed39 s.vm) (eT : T.heap = h) (A : IA Z h a .byte n f) {j x : Int32} {i : Nat} (hj : j = Int32.ofNat i) (hi : i < n) {g : JFrame} (hg : g.method = m) {rest : List Value} (hs : g.stack = .int x :: .int j :: .ref a :: rest) (hd : decode c.code g.pc = .ok (.bastore, 1)) :
    ∃ T' h', Stand p l e R s m args below meth c T' (locs ++ [⟨a, i⟩]) cells slots ∧ T'.heap = h' ∧ Wr h h' a i (.int (nar .byte x)) ∧ IA Z h' a .byte n (own_upd f i (nar .byte x)) ∧ ∀ target, Steps p.tables e below (T'.setTop { g with pc := g.pc + 1, stack := rest }) target → Steps p.tables e below (T.setTop g) target := by
  obtain ⟨cl, A, S, M, H⟩ := A
  subst hj
  obtain ⟨T', h', X', e', W, st⟩ := stB X hx hZ eT A (j := Int32.ofNat i) (by rw [S]; exact own_in hi M) hg hs hd
  rw [own_cl (by omega)] at X' W
  exact ⟨T', h', X', e', W, IA.set A S M H hi (fits_nar_byte _) W, st⟩
theorem own_stC (X : Stand p l e R s m args below meth c T locs cells slots) (hx : p.tables.exec = Jvm.exec) (hZ : Z.Warmed39 s.vm) (eT : T.heap = h) (A : IA Z h a .char n f) {j x : Int32} {i : Nat} (hj : j = Int32.ofNat i) (hi : i < n) {g : JFrame} (hg : g.method = m) {rest : List Value} (hs : g.stack = .int x :: .int j :: .ref a :: rest) (hd : decode c.code g.pc = .ok (.castore, 1)) :
    ∃ T' h', Stand p l e R s m args below meth c T' (locs ++ [⟨a, i⟩]) cells slots ∧ T'.heap = h' ∧ Wr h h' a i (.int (nar .char x)) ∧ IA Z h' a .char n (own_upd f i (nar .char x)) ∧ ∀ target, Steps p.tables e below (T'.setTop { g with pc := g.pc + 1, stack := rest }) target → Steps p.tables e below (T.setTop g) target := by
  obtain ⟨cl, A, S, M, H⟩ := A
  subst hj
  obtain ⟨T', h', X', e', W, st⟩ := stC X hx hZ eT A (j := Int32.ofNat i) (by rw [S]; exact own_in hi M) hg hs hd
  rw [own_cl (by omega)] at X' W
  exact ⟨T', h', X', e', W, IA.set A S M H hi (fits_nar_char _) W, st⟩
theorem own_stZ (X : Stand p l e R s m args below meth c T locs cells slots) (hx : p.tables.exec = Jvm.exec) (hZ : Z.Warmed39 s.vm) (eT : T.heap = h) (A : IA Z h a .boolean n f) {j x : Int32} {i : Nat} (hj : j = Int32.ofNat i) (hi : i < n) {g : JFrame} (hg : g.method = m) {rest : List Value} (hs : g.stack = .int x :: .int j :: .ref a :: rest) (hd : decode c.code g.pc = .ok (.bastore, 1)) :
    ∃ T' h', Stand p l e R s m args below meth c T' (locs ++ [⟨a, i⟩]) cells slots ∧ T'.heap = h' ∧ Wr h h' a i (.int (nar .boolean x)) ∧ IA Z h' a .boolean n (own_upd f i (nar .boolean x)) ∧ ∀ target, Steps p.tables e below (T'.setTop { g with pc := g.pc + 1, stack := rest }) target → Steps p.tables e below (T.setTop g) target := by
  obtain ⟨cl, A, S, M, H⟩ := A
  subst hj
  obtain ⟨T', h', X', e', W, st⟩ := stZ X hx hZ eT A (j := Int32.ofNat i) (by rw [S]; exact own_in hi M) hg hs hd
  rw [own_cl (by omega)] at X' W
  exact ⟨T', h', X', e', W, IA.set A S M H hi (fits_nar_bool _) W, st⟩
theorem own_ldI (X : Stand p l e R s m args below meth c T locs cells slots) (hx : p.tables.exec = Jvm.exec) (hZ : Z.Warmed39 s.vm) (eT : T.heap = h) (A : IA Z h a .int n f) {j : Int32} {i : Nat} (hj : j = Int32.ofNat i) (hi : i < n) {g : JFrame} (hg : g.method = m) {rest : List Value} (hs : g.stack = .int j :: .ref a :: rest) (hd : decode c.code g.pc = .ok (.iaload, 1)) :
    ∀ target, Steps p.tables e below (T.setTop { g with pc := g.pc + 1, stack := .int (f i) :: rest }) target → Steps p.tables e below (T.setTop g) target := by
  obtain ⟨cl, A, S, M, H⟩ := A
  subst hj
  exact X.iaload hx (j := Int32.ofNat i) (v := .int (f i)) (by rw [eT]; exact A.1) (State.isArrayOf_alike hZ.alike A.2.1) A.2.2 (by rw [S]; exact own_in hi M) (by rw [own_cl (by omega)]; exact (H i hi).1) hg hs hd
theorem own_ldB (X : Stand p l e R s m args below meth c T locs cells slots) (hx : p.tables.exec = Jvm.exec) (hZ : Z.Warmed39 s.vm) (eT : T.heap = h) (A : IA Z h a .byte n f) {j : Int32} {i : Nat} (hj : j = Int32.ofNat i) (hi : i < n) {g : JFrame} (hg : g.method = m) {rest : List Value} (hs : g.stack = .int j :: .ref a :: rest) (hd : decode c.code g.pc = .ok (.baload, 1)) :
    ∀ target, Steps p.tables e below (T.setTop { g with pc := g.pc + 1, stack := .int (f i) :: rest }) target → Steps p.tables e below (T.setTop g) target := by
  obtain ⟨cl, A, S, M, H⟩ := A
  subst hj
  exact X.baloadBytes hx (j := Int32.ofNat i) (v := .int (f i)) (by rw [eT]; exact A.1) (State.isArrayOf_alike hZ.alike A.2.1) A.2.2 (by rw [S]; exact own_in hi M) (by rw [own_cl (by omega)]; exact (H i hi).1) hg hs hd
theorem own_ldZ (X : Stand p l e R s m args below meth c T locs cells slots) (hx : p.tables.exec = Jvm.exec) (hZ : Z.Warmed39 s.vm) (eT : T.heap = h) (A : IA Z h a .boolean n f) {j : Int32} {i : Nat} (hj : j = Int32.ofNat i) (hi : i < n) {g : JFrame} (hg : g.method = m) {rest : List Value} (hs : g.stack = .int j :: .ref a :: rest) (hd : decode c.code g.pc = .ok (.baload, 1)) :
    ∀ target, Steps p.tables e below (T.setTop { g with pc := g.pc + 1, stack := .int (f i) :: rest }) target → Steps p.tables e below (T.setTop g) target := by
  obtain ⟨cl, A, S, M, H⟩ := A
  subst hj
  exact X.baloadBooleans hx (j := Int32.ofNat i) (v := .int (f i)) (by rw [eT]; exact A.1) (State.isArrayOf_alike hZ.alike A.2.1) A.2.2 (by rw [S]; exact own_in hi M) (by rw [own_cl (by omega)]; exact (H i hi).1) hg hs hd
theorem own_ldC (X : Stand p l e R s m args below meth c T locs cells slots) (hx : p.tables.exec = Jvm.exec) (hZ : Z.Warmed39 s.vm) (eT : T.heap = h) (A : IA Z h a .char n f) {j : Int32} {i : Nat} (hj : j = Int32.ofNat i) (hi : i < n) {g : JFrame} (hg : g.method = m) {rest : List Value} (hs : g.stack = .int j :: .ref a :: rest) (hd : decode c.code g.pc = .ok (.caload, 1)) :
    ∀ target, Steps p.tables e below (T.setTop { g with pc := g.pc + 1, stack := .int (f i) :: rest }) target → Steps p.tables e below (T.setTop g) target := by
  obtain ⟨cl, A, S, M, H⟩ := A
  subst hj
  exact X.caload hx (j := Int32.ofNat i) (v := .int (f i)) (by rw [eT]; exact A.1) (State.isArrayOf_alike hZ.alike A.2.1) A.2.2 (by rw [S]; exact own_in hi M) (by rw [own_cl (by omega)]; exact (H i hi).1) hg hs hd
theorem own_len (X : Stand p l e R s m args below meth c T locs cells slots) (hx : p.tables.exec = Jvm.exec) (hZ : Z.Warmed39 s.vm) (eT : T.heap = h) (A : IA Z h a ty n f) {g : JFrame} (hg : g.method = m) {rest : List Value} (hs : g.stack = .ref a :: rest) (hd : decode c.code g.pc = .ok (.arraylength, 1)) :
    ∀ target, Steps p.tables e below (T.setTop { g with pc := g.pc + 1, stack := .int (Int32.ofNat n) :: rest }) target → Steps p.tables e below (T.setTop g) target := by
  obtain ⟨cl, A, S, M, H⟩ := A
  subst S
  exact X.arraylength hx (by rw [eT]; exact A.1) (State.isArrayOf_alike hZ.alike A.2.1) hg hs hd
end IAs
end Jvm.RoadKit
namespace Jvm.RoadKit
open Sem ClassFile Op Lib Jvm.Stand Jvm.Free Jvm.LawKit
theorem own_eqNat {x : Int32} {n : Nat} (h : x.toInt = n) : x = Int32.ofNat n := Int32.toInt_inj.mp (by rw [h, own_nat (by have := x.toInt_lt; omega)])
theorem own_andN (x m : Int32) (k : Nat) (hk : k < 32) (hm : m.toBitVec.toNat = 2 ^ k - 1) : ∃ n : Nat, n < 2 ^ k ∧ x &&& m = Int32.ofNat n := by
  have h := Jvm.Kit.i32_mask x m hk hm
  have hpos : (0 : Int) < 2 ^ k := Int.pow_pos (by decide)
  have h1 := Int.emod_nonneg x.toInt (Int.ne_of_gt hpos)
  have h2 := Int.emod_lt_of_pos x.toInt hpos
  refine ⟨(x.toInt % 2 ^ k).toNat, ?_, own_eqNat ?_⟩
  · have e : ((2 ^ k : Nat) : Int) = (2 : Int) ^ k := by rw [Int.natCast_pow]; rfl
    omega
  · rw [h]; omega
theorem own_modN (x : Int32) (d : Nat) (h0 : 0 < d) (hd : d < 2 ^ 31) : ∃ n : Nat, n < d ∧ (x &&& 2147483647) % Int32.ofNat d = Int32.ofNat n := by
  have h := Jvm.Kit.i32_mask x 2147483647 (k := 31) (by decide) (by decide)
  have h1 := Int.emod_nonneg x.toInt (show (2 : Int) ^ 31 ≠ 0 by decide)
  have e := Jvm.Kit.i32_rem_nonneg (x := x &&& 2147483647) (y := Int32.ofNat d) (by rw [h]; exact h1)
  rw [own_nat hd] at e
  have h2 := Int.emod_nonneg (x &&& 2147483647).toInt (show (d : Int) ≠ 0 by omega)
  have h3 := Int.emod_lt_of_pos (x &&& 2147483647).toInt (show (0 : Int) < d by omega)
  exact ⟨((x &&& 2147483647).toInt % d).toNat, by omega, own_eqNat (by rw [e]; omega)⟩
theorem own_lt {i n : Nat} (hi : i < 2 ^ 31) (hn : n < 2 ^ 31) : Int32.ofNat i < Int32.ofNat n ↔ i < n := by
  rw [Int32.lt_iff_toInt_lt, own_nat hi, own_nat hn]; omega
theorem own_inj {i n : Nat} (hi : i < 2 ^ 31) (hn : n < 2 ^ 31) : Int32.ofNat i = Int32.ofNat n ↔ i = n := by
  rw [← Int32.toInt_inj, own_nat hi, own_nat hn]; omega
theorem own_add {i n : Nat} (h : i + n < 2 ^ 31) : Int32.ofNat i + Int32.ofNat n = Int32.ofNat (i + n) :=
  own_eqNat (by rw [Jvm.Kit.i32_add (by rw [own_nat (by omega), own_nat (by omega)]; omega) (by rw [own_nat (by omega), own_nat (by omega)]; omega), own_nat (by omega), own_nat (by omega)]; omega)
end Jvm.RoadKit
namespace Jvm.RoadKit
open Sem ClassFile Op Lib Jvm.Stand Jvm.Free Jvm.LawKit
section Switch
variable {p : Program} {l : Launch} {e : Env} {R : Room} {s : State} {m : MethodId} {args : Array Value} {below : List Frame} {meth : Method} {c : Code} {T : State} {locs : List Loc} {cells slots : Nat}
theorem own_lswH (X : Stand p l e R s m args below meth c T locs cells slots) (hx : p.tables.exec = Jvm.exec) {g : JFrame} (hg : g.method = m) {k : Int32} {rest : List Value} {pc0 pc' : Nat} (hpc : g.pc = pc0)
    (hs : g.stack = .int k :: rest) {dflt : Int} {pairs : Array (Int × Int)} {len : Nat} (hd : decode c.code g.pc = .ok (.lookupswitch dflt pairs, len))
    (hsorted : (pairs.toList.zip (pairs.toList.drop 1)).all (fun (a, next) => a.1 < next.1) = true) {a off : Int} (hfind : pairs.find? (·.1 == k.toInt) = some (a, off)) (ho : 0 ≤ (pc0 : Int) + off) (hp : ((pc0 : Int) + off).toNat = pc')
    (target : State) (hr : Steps p.tables e below (T.setTop { g with pc := pc', stack := rest }) target) : Steps p.tables e below (T.setTop g) target := by
  subst hpc hp
  exact X.lookupswitchHit hx hg hs hd hsorted hfind ho target hr
theorem own_lswM (X : Stand p l e R s m args below meth c T locs cells slots) (hx : p.tables.exec = Jvm.exec) {g : JFrame} (hg : g.method = m) {k : Int32} {rest : List Value} {pc0 pc' : Nat} (hpc : g.pc = pc0)
    (hs : g.stack = .int k :: rest) {dflt : Int} {pairs : Array (Int × Int)} {len : Nat} (hd : decode c.code g.pc = .ok (.lookupswitch dflt pairs, len))
    (hsorted : (pairs.toList.zip (pairs.toList.drop 1)).all (fun (a, next) => a.1 < next.1) = true) (hfind : ∀ q ∈ pairs.toList, q.1 ≠ k.toInt) (ho : 0 ≤ (pc0 : Int) + dflt) (hp : ((pc0 : Int) + dflt).toNat = pc')
    (target : State) (hr : Steps p.tables e below (T.setTop { g with pc := pc', stack := rest }) target) : Steps p.tables e below (T.setTop g) target := by
  subst hpc hp
  exact X.lookupswitchMiss hx hg hs hd hsorted (find_miss hfind) ho target hr
theorem own_nk {x y : Int32} {z : Int} (hz : y.toInt = z) (h : ¬ x = y) : z ≠ x.toInt := fun q => h (Int32.toInt_inj.mp (q.symm.trans hz.symm))
end Switch
end Jvm.RoadKit
namespace Jvm.RoadKit
open Sem ClassFile Op Lib Jvm.Stand Jvm.Free Jvm.LawKit
section Statics
variable {Z : State} {args : Array Value} {C n d K : String} {t : Term} {a : Addr}
theorem own_sta (h : (Cond.exactly (.static C n d) K).value args Z none Z [] = some true) (hi : (Cond.initialized C).before args Z = true) (hl : (Cond.laysStatic C n d).before args Z = true) : ∃ a, (Term.static C n d).eval args Z none [] Z = some (.ref a) ∧ Sta Z Z.heap C n d (.ref a) ∧ Exa Z Z.heap a K := by
  obtain ⟨a, e⟩ := exa_v h
  exact ⟨a, e, Sta.start e (Or.inr ⟨hi, hl⟩), Exa.start e h⟩
theorem own_stfI {k : Int32} (e : t.eval args Z none [] Z = some (.ref a)) (h : (Cond.eq (.field t C n d) (.int k)).value args Z none Z [] = some true) : Fld Z Z.heap a C n d (.int k) := by
  apply Fld.start
  simp only [Cond.value, Term.eval, e, Option.bind_eq_bind, Option.bind_some] at h
  cases hf : Z.fieldOf? a C n d with
  | none => simp [hf] at h
  | some x => cases x <;> simp [hf] at h ⊢; exact h
theorem own_stfJ {k : Int64} (e : t.eval args Z none [] Z = some (.ref a)) (h : (Cond.eq (.field t C n d) (.long k)).value args Z none Z [] = some true) : Fld Z Z.heap a C n d (.long k) := by
  apply Fld.start
  simp only [Cond.value, Term.eval, e, Option.bind_eq_bind, Option.bind_some] at h
  cases hf : Z.fieldOf? a C n d with
  | none => simp [hf] at h
  | some x => cases x <;> simp [hf] at h ⊢; exact h
end Statics
end Jvm.RoadKit
namespace Jvm.RoadKit
open Sem ClassFile Op Lib Jvm.Stand Jvm.Free Jvm.LawKit
theorem own_lrem {tb : Tables} [Ours tb] {e : Env} {below : List Frame} {T target : State} {m : MethodId} {c : Code} {g : JFrame} (h : At T m c below) (hx : tb.exec = Jvm.exec) (hg : g.method = m) {x y : Int64} {rest : List Value} (hd : decode c.code g.pc = .ok (.lrem, 1)) (hs : g.stack = .long y :: .long x :: rest) (hy : y ≠ 0)
    (hr : Steps tb e below (T.setTop { g with pc := g.pc + 1, stack := .long (x % y) :: rest }) target) : Steps tb e below (T.setTop g) target :=
  XS.lrem h hx hg hd hs hy (by rw [lrem_mod]; exact hr)
theorem own_irem_mod (x y : Int32) : x - (x / y) * y = x % y := by
  apply Int32.toInt_inj.mp
  have h1 := Int32.le_toInt (x % y)
  have h2 := Int32.toInt_lt (x % y)
  rw [Int32.toInt_sub, Int32.toInt_mul, Int32.toInt_div, Int.bmod_mul_bmod, Int.sub_bmod_bmod, Int.mul_comm (x.toInt.tdiv y.toInt), ← Int.tmod_def, ← Int32.toInt_mod]
  exact Int.bmod_eq_of_le_mul_two (by omega) (by omega)
theorem own_irem {tb : Tables} [Ours tb] {e : Env} {below : List Frame} {T target : State} {m : MethodId} {c : Code} {g : JFrame} (h : At T m c below) (hx : tb.exec = Jvm.exec) (hg : g.method = m) {x y : Int32} {rest : List Value} (hd : decode c.code g.pc = .ok (.irem, 1)) (hs : g.stack = .int y :: .int x :: rest) (hy : y ≠ 0)
    (hr : Steps tb e below (T.setTop { g with pc := g.pc + 1, stack := .int (x % y) :: rest }) target) : Steps tb e below (T.setTop g) target :=
  XS.irem h hx hg hd hs hy (by rw [own_irem_mod]; exact hr)
theorem own_div1 (x : Int64) : x / 1 = x := Int64.toInt_inj.mp (by
  rw [Jvm.Kit.i64_div (fun q => by have := q.2; revert this; decide)]
  show x.toInt.tdiv 1 = x.toInt
  exact Int.tdiv_one _)
end Jvm.RoadKit
namespace Jvm.RoadKit
open Sem ClassFile Op Lib Jvm.Stand Jvm.Free Jvm.LawKit
theorem own_kx {h h' : Heap} (K : Keep h h' []) : Ext h h' := ⟨K.1, fun a c q => K.2.1 a c q nin0⟩
section Unlike
variable {Z : State} {a0 : Array Value}
theorem own_nsroot {O K : String} {n : Nat} (w : (Cond.noSuperclass O).before a0 Z = true) (wk : (Cond.instantiable K n).before a0 Z = true) (hn : O ≠ K) : NS Z O K := by
  obtain ⟨c, k, h1, h2, h3, -, -⟩ := Cond.noSuperclass_spec w
  obtain ⟨t, k', g1, g2, -⟩ := Cond.instantiable_spec wk
  have ne := ids_ne h1 g1 hn
  refine ⟨c, t, h1, g1, fun fuel => ?_⟩
  cases fuel with
  | zero => rfl
  | succ f => simp [Vm.isSubclassAux, ne, h2, h3]
theorem own_nsno {C S K : String} {n : Nat} (w : (Cond.superclass C S).before a0 Z = true) (wk : (Cond.instantiable K n).before a0 Z = true) (N : NS Z C K) (hn : C ≠ K) : ∃ c t, Z.vm.findClass C = some c ∧ Z.vm.findClass K = some t ∧ Z.vm.assignable c t = false := by
  obtain ⟨c, t, h0, g0, n3⟩ := N
  obtain ⟨p, k, kp, h1, h2, h3, h4, h5, -, h7⟩ := Cond.superclass_spec h0 w
  obtain ⟨t', k', g1, g2, g3, g4, -⟩ := Cond.instantiable_spec wk
  cases g0.symm.trans g1
  have g7 : k'.isInterface = false := by
    cases hq : k'.isInterface with
    | false => rfl
    | true => rw [hq] at g4; simp at g4
  have ne := ids_ne h0 g0 hn
  refine ⟨c, t, h0, g0, ?_⟩
  show Z.vm.assignableAux (255 + 1) c t = false
  simp [Vm.assignableAux, ne, h2, g2, h5, g3, g7, Vm.isSubclass, n3]
end Unlike
end Jvm.RoadKit
namespace Jvm.RoadKit
open Sem ClassFile Op Lib Jvm.Stand Jvm.Free Jvm.LawKit
section Clone
variable {p : Program} {l : Launch} {e : Env} {R : Room} {s : State} {m : MethodId} {args : Array Value} {below : List Frame} {meth : Method} {c : Code} {T : State} {locs : List Loc} {cells slots : Nat} {Z : State} {a0 : Array Value} {h : Heap} {a : Addr} {ty : FieldType} {n : Nat} {f : Nat → Int32}
theorem own_clone (X : Stand p l e R s m args below meth c T locs cells slots) (hx : p.tables.exec = Jvm.exec) (hZ : Z.Warmed39 s.vm) {own ad : String} {index : Nat} (hown : s.vm.findClass own = some m.cls)
    (w1 : (Cond.methodLink own index ⟨ad, "clone", "()Ljava/lang/Object;"⟩).before a0 Z = true) (w2 : (Cond.sameMethod ad "java/lang/Object" "clone" "()Ljava/lang/Object;").before a0 Z = true) (w3 : (Cond.native ⟨"java/lang/Object", "clone", "()Ljava/lang/Object;"⟩).before a0 Z = true)
    (w4 : (Cond.instanceMethod ⟨"java/lang/Object", "clone", "()Ljava/lang/Object;"⟩).before a0 Z = true) (w5 : (Cond.selects ad ⟨ad, "clone", "()Ljava/lang/Object;"⟩ ⟨"java/lang/Object", "clone", "()Ljava/lang/Object;"⟩).before a0 Z = true) (w6 : (Cond.castable ad "java/lang/Cloneable").before a0 Z = true)
    (eT : T.heap = h) (A : IA Z h a ty n f) (E : Exa Z h a ad) {g : JFrame} (hg : g.method = m) (hsize : g.locals.size = c.maxLocals) {rest : List Value} (hs : g.stack = .ref a :: rest) (hd : decode c.code g.pc = .ok (.invokevirtual index, 3))
    (hf : 1 ≤ R.frames) {W cap : Nat} (hW : 2 * g.monitorRoom + (rest.map fun v => v.category).sum ≤ W) (hl : W + 14 ≤ R.locals) (hcap : n ≤ cap) (hc : cells + 1 ≤ R.cells) (hsl : slots + cap ≤ R.slots) :
    ∃ T' h', Stand p l e R s m args below meth c T' locs (cells + 1) (slots + cap) ∧ T'.heap = h' ∧ Ext h h' ∧ IA Z h' h.size ty n f ∧ Exa Z h' h.size ad ∧
      ∀ target, Steps p.tables e below (T'.setTop { g with pc := g.pc + 3, stack := .ref h.size :: rest }) target → Steps p.tables e below (T.setTop g) target := by
  obtain ⟨cl, A, S, M, H⟩ := A
  have FC : FitC Z cl := fitC_of A fun i hi v hv => by
    rw [S] at hi
    rw [(H i hi).1] at hv
    cases hv
    exact (H i hi).2
  obtain ⟨T', h', X', e', ex, A', E', st⟩ := cloneA X hx hZ hown w1 w2 w3 w4 w5 w6 eT A E FC hg hsize hs hd hf hW hl (by rw [S]; exact hcap) hc hsl
  exact ⟨T', h', X', e', ex, ⟨cloneOf cl, A', S, M, H⟩, E', st⟩
end Clone
theorem own_sub {i n : Nat} (h : n ≤ i) (hi : i < 2 ^ 31) : Int32.ofNat i - Int32.ofNat n = Int32.ofNat (i - n) :=
  own_eqNat (by rw [Jvm.Kit.i32_sub (by rw [own_nat (by omega), own_nat (by omega)]; omega) (by rw [own_nat (by omega), own_nat (by omega)]; omega), own_nat (by omega), own_nat (by omega)]; omega)
end Jvm.RoadKit
namespace Jvm.RoadKit
open Sem ClassFile Op Lib Jvm.Stand Jvm.Free Jvm.LawKit
theorem own_stak {Z : State} {h h' : Heap} {C n d D : String} {v : Value} {a : Addr} (F : Sta Z h C n d v) (K : Keep h h' [a]) (E : Exa Z h a D) : Sta Z h' C n d v := by
  obtain ⟨cf, i, k, f, st, cell, h1, h2, h3, h4, h5, h6, h7⟩ := F
  obtain ⟨cell', k', e1, -, -, e4, -⟩ := E
  have ne : st ≠ a := fun q => by
    subst q
    cases h5.symm.trans e1
    rw [e4] at h6
    cases h6
  exact ⟨cf, i, k, f, st, cell, h1, h2, h3, h4, K.2.1 _ _ h5 (ninS ne nin0), h6, h7⟩
end Jvm.RoadKit
namespace Jvm.Pilot.@@N@@
open Jvm Jvm.ClassFile Sem Op Lib Jvm.Free Jvm.Stand Jvm.LawKit Jvm.RoadKit Bundle Jvm.Pilot.@@N@@.Jvm.D
theorem pd_0 : parseMethodDescriptor "(II)I" = some ⟨[.int, .int], some .int⟩ := by decide +kernel
theorem pd_1 : parseMethodDescriptor "([BIII)I" = some ⟨[(.array .byte), .int, .int, .int], some .int⟩ := by decide +kernel
theorem pd_2 : parseMethodDescriptor "([BII)I" = some ⟨[(.array .byte), .int, .int], some .int⟩ := by decide +kernel
theorem d1_0 : decode jdk_29_method_69_code 0 = .ok (.iload_n 0, 1) := by decide +kernel
theorem d1_1 : decode jdk_29_method_69_code 1 = .ok (.iload_n 1, 1) := by decide +kernel
theorem d1_2 : decode jdk_29_method_69_code 2 = .ok (.if_icmp .gt 7, 3) := by decide +kernel
theorem d1_5 : decode jdk_29_method_69_code 5 = .ok (.iload_n 0, 1) := by decide +kernel
theorem d1_6 : decode jdk_29_method_69_code 6 = .ok (.goto 4, 3) := by decide +kernel
theorem d1_9 : decode jdk_29_method_69_code 9 = .ok (.iload_n 1, 1) := by decide +kernel
theorem d1_10 : decode jdk_29_method_69_code 10 = .ok (.ireturn, 1) := by decide +kernel
theorem ef_rm1 (m : MethodId) (x0 : Int32) (x1 : Int32) : entryFrame m #[(.int x0), (.int x1)] 2 = mkF m 0 #[.val (.int x0), .val (.int x1)] [] := by first | (simp [entryFrame, mkF, argsToLocals, Value.category]; done) | rfl
def f1 (p0 : Int32) (p1 : Int32) : Int32 := (if p1 < p0 then p1 else p0)
set_option maxRecDepth 65536 in
set_option maxHeartbeats 40000000 in
theorem rm1 (l : Launch) (Z : State) (a0 : Array Value) (hw : ∀ d ∈ tables_1, d.before a0 Z = true) (ws : List Jvm.Cond) (p0 : Int32) (p1 : Int32) (h0 : Heap) (n0 : Nat) (Z0 : n0 ≤ h0.size) :
    MetFree l (⟨"java/lang/Math", "min", "(II)I"⟩ : MethodName) (head1 (Jvm.Cond.code (⟨"java/lang/Math", "min", "(II)I"⟩ : MethodName) jdk_29_method_69_code 2 (some .int) :: ws) ({ frames := 0, cells := 0, slots := 0, locals := 0 } : Room)) (fun a U => a = #[(.int p0), (.int p1)] ∧ Z.Warmed39 U.vm ∧ U.heap = h0) (fun _ _ _ _ _ => True) (fun _ U o U' => ∃ v L, o = .returned v ∧ Qp (.int (f1 p0 p1)) h0 n0 v U'.heap L ∧ FrameEnd U o U' L ({ frames := 0, cells := 0, slots := 0, locals := 0 } : Room).cells ({ frames := 0, cells := 0, slots := 0, locals := 0 } : Room).slots) := by
  refine MetFree.of_bodySF (Jvm.Free.JP.mathPlain rfl (by decide +kernel)) hisR ?_
  intro p e s m args below meth c s₁ Bd hml0 hP hK
  obtain ⟨rfl, hZ, hh⟩ := hP
  have hx := Bd.exec
  have hby := Bd.bytes
  have hml : c.maxLocals = 2 := hml0
  have hown : s.vm.findClass "java/lang/Math" = some m.cls := findClass_of_methodNamed Bd.named
  have hnm := (name_of_methodNamed Bd.named Bd.method).1
  have hlk : meth.locks = false := BodyLoose.notSynchronized Bd
  have X0 : Stand p l e ({ frames := 0, cells := 0, slots := 0, locals := 0 } : Room) s m #[(.int p0), (.int p1)] below meth c s₁ [] 0 0 := Stand.of_body Bd
  have e0 : s₁.heap = h0 := by rw [← hh, Bd.state]; rfl
  have N0 := Fr.nil n0
  have K0 : Keep h0 h0 [] := Keep.refl _ _
  show Goes p e below s (Qp (.int (f1 p0 p1)) h0 n0) ({ frames := 0, cells := 0, slots := 0, locals := 0 } : Room).cells ({ frames := 0, cells := 0, slots := 0, locals := 0 } : Room).slots (s₁.setTop (entryFrame m #[(.int p0), (.int p1)] 2))
  rw [ef_rm1]
  show Goes p e below s _ _ _ (s₁.setTop (mkF m 0 #[.val (.int p0), .val (.int p1)] []))
  refine Goes.go (fun _ k => XS.iloadN X0.here hx rfl (hb hby d1_0) rfl  k) ?_
  show Goes p e below s _ _ _ (s₁.setTop (mkF m 1 #[.val (.int p0), .val (.int p1)] [(.int p0)]))
  refine Goes.go (fun _ k => XS.iloadN X0.here hx rfl (hb hby d1_1) rfl  k) ?_
  show Goes p e below s _ _ _ (s₁.setTop (mkF m 2 #[.val (.int p0), .val (.int p1)] [(.int p1), (.int p0)]))
  obtain ⟨z1_s0, hz1_s0⟩ : ∃ z : Int32, z = if p1 < p0 then p1 else p0 := ⟨_, rfl⟩
  have sm1 : ∀ t, Steps p.tables e below (s₁.setTop (mkF m 10 #[.val (.int p0), .val (.int p1)] [(.int z1_s0)])) t → Steps p.tables e below (s₁.setTop (mkF m 2 #[.val (.int p0), .val (.int p1)] [(.int p1), (.int p0)])) t := by
    intro t k
    by_cases hc2_1 : p1 < p0
    · have k2 : Steps p.tables e below (s₁.setTop (mkF m 10 #[.val (.int p0), .val (.int p1)] [(.int p1)])) t := by simpa only [hz1_s0, if_pos hc2_1] using k
      show Steps p.tables e below (s₁.setTop (mkF m 2 #[.val (.int p0), .val (.int p1)] [(.int p1), (.int p0)])) _
      refine XS.icmpYes X0.here hx rfl (pc0 := 2) (pc' := 9) rfl (hb hby d1_2) rfl (tlt hc2_1).2.2.1 (by decide) (by decide) ?_
      show Steps p.tables e below (s₁.setTop (mkF m 9 #[.val (.int p0), .val (.int p1)] [])) _
      refine XS.iloadN X0.here hx rfl (hb hby d1_9) rfl  ?_
      exact k2
    · have k2 : Steps p.tables e below (s₁.setTop (mkF m 10 #[.val (.int p0), .val (.int p1)] [(.int p0)])) t := by simpa only [hz1_s0, if_neg hc2_1] using k
      show Steps p.tables e below (s₁.setTop (mkF m 2 #[.val (.int p0), .val (.int p1)] [(.int p1), (.int p0)])) _
      refine XS.icmpNo X0.here hx rfl (hb hby d1_2) rfl (flt hc2_1).2.2.1 ?_
      show Steps p.tables e below (s₁.setTop (mkF m 5 #[.val (.int p0), .val (.int p1)] [])) _
      refine XS.iloadN X0.here hx rfl (hb hby d1_5) rfl  ?_
      show Steps p.tables e below (s₁.setTop (mkF m 6 #[.val (.int p0), .val (.int p1)] [(.int p0)])) _
      refine XS.goto X0.here hx rfl (pc0 := 6) (pc' := 10) rfl (hb hby d1_6) (by decide) (by decide) ?_
      exact k2
  refine Goes.go sm1 ?_
  show Goes p e below s _ _ _ (s₁.setTop (mkF m 10 #[.val (.int p0), .val (.int p1)] [(.int z1_s0)]))
  refine Goes.retI X0 hx hlk Bd.returns (hb hby d1_10) ?_ (by decide) (by decide)
  exact ⟨by subst hz1_s0; rfl, N0, e0⟩
theorem d2_0 : decode jdk_29_method_65_code 0 = .ok (.iload_n 0, 1) := by decide +kernel
theorem d2_1 : decode jdk_29_method_65_code 1 = .ok (.iload_n 1, 1) := by decide +kernel
theorem d2_2 : decode jdk_29_method_65_code 2 = .ok (.if_icmp .lt 7, 3) := by decide +kernel
theorem d2_5 : decode jdk_29_method_65_code 5 = .ok (.iload_n 0, 1) := by decide +kernel
theorem d2_6 : decode jdk_29_method_65_code 6 = .ok (.goto 4, 3) := by decide +kernel
theorem d2_9 : decode jdk_29_method_65_code 9 = .ok (.iload_n 1, 1) := by decide +kernel
theorem d2_10 : decode jdk_29_method_65_code 10 = .ok (.ireturn, 1) := by decide +kernel
theorem ef_rm2 (m : MethodId) (x0 : Int32) (x1 : Int32) : entryFrame m #[(.int x0), (.int x1)] 2 = mkF m 0 #[.val (.int x0), .val (.int x1)] [] := by first | (simp [entryFrame, mkF, argsToLocals, Value.category]; done) | rfl
def f2 (p0 : Int32) (p1 : Int32) : Int32 := (if p0 < p1 then p1 else p0)
set_option maxRecDepth 65536 in
set_option maxHeartbeats 40000000 in
theorem rm2 (l : Launch) (Z : State) (a0 : Array Value) (hw : ∀ d ∈ tables_1, d.before a0 Z = true) (ws : List Jvm.Cond) (p0 : Int32) (p1 : Int32) (h0 : Heap) (n0 : Nat) (Z0 : n0 ≤ h0.size) :
    MetFree l (⟨"java/lang/Math", "max", "(II)I"⟩ : MethodName) (head1 (Jvm.Cond.code (⟨"java/lang/Math", "max", "(II)I"⟩ : MethodName) jdk_29_method_65_code 2 (some .int) :: ws) ({ frames := 0, cells := 0, slots := 0, locals := 0 } : Room)) (fun a U => a = #[(.int p0), (.int p1)] ∧ Z.Warmed39 U.vm ∧ U.heap = h0) (fun _ _ _ _ _ => True) (fun _ U o U' => ∃ v L, o = .returned v ∧ Qp (.int (f2 p0 p1)) h0 n0 v U'.heap L ∧ FrameEnd U o U' L ({ frames := 0, cells := 0, slots := 0, locals := 0 } : Room).cells ({ frames := 0, cells := 0, slots := 0, locals := 0 } : Room).slots) := by
  refine MetFree.of_bodySF (Jvm.Free.JP.mathPlain rfl (by decide +kernel)) hisR ?_
  intro p e s m args below meth c s₁ Bd hml0 hP hK
  obtain ⟨rfl, hZ, hh⟩ := hP
  have hx := Bd.exec
  have hby := Bd.bytes
  have hml : c.maxLocals = 2 := hml0
  have hown : s.vm.findClass "java/lang/Math" = some m.cls := findClass_of_methodNamed Bd.named
  have hnm := (name_of_methodNamed Bd.named Bd.method).1
  have hlk : meth.locks = false := BodyLoose.notSynchronized Bd
  have X0 : Stand p l e ({ frames := 0, cells := 0, slots := 0, locals := 0 } : Room) s m #[(.int p0), (.int p1)] below meth c s₁ [] 0 0 := Stand.of_body Bd
  have e0 : s₁.heap = h0 := by rw [← hh, Bd.state]; rfl
  have N0 := Fr.nil n0
  have K0 : Keep h0 h0 [] := Keep.refl _ _
  show Goes p e below s (Qp (.int (f2 p0 p1)) h0 n0) ({ frames := 0, cells := 0, slots := 0, locals := 0 } : Room).cells ({ frames := 0, cells := 0, slots := 0, locals := 0 } : Room).slots (s₁.setTop (entryFrame m #[(.int p0), (.int p1)] 2))
  rw [ef_rm2]
  show Goes p e below s _ _ _ (s₁.setTop (mkF m 0 #[.val (.int p0), .val (.int p1)] []))
  refine Goes.go (fun _ k => XS.iloadN X0.here hx rfl (hb hby d2_0) rfl  k) ?_
  show Goes p e below s _ _ _ (s₁.setTop (mkF m 1 #[.val (.int p0), .val (.int p1)] [(.int p0)]))
  refine Goes.go (fun _ k => XS.iloadN X0.here hx rfl (hb hby d2_1) rfl  k) ?_
  show Goes p e below s _ _ _ (s₁.setTop (mkF m 2 #[.val (.int p0), .val (.int p1)] [(.int p1), (.int p0)]))
  obtain ⟨z1_s0, hz1_s0⟩ : ∃ z : Int32, z = if p0 < p1 then p1 else p0 := ⟨_, rfl⟩
  have sm1 : ∀ t, Steps p.tables e below (s₁.setTop (mkF m 10 #[.val (.int p0), .val (.int p1)] [(.int z1_s0)])) t → Steps p.tables e below (s₁.setTop (mkF m 2 #[.val (.int p0), .val (.int p1)] [(.int p1), (.int p0)])) t := by
    intro t k
    by_cases hc2_1 : p0 < p1
    · have k2 : Steps p.tables e below (s₁.setTop (mkF m 10 #[.val (.int p0), .val (.int p1)] [(.int p1)])) t := by simpa only [hz1_s0, if_pos hc2_1] using k
      show Steps p.tables e below (s₁.setTop (mkF m 2 #[.val (.int p0), .val (.int p1)] [(.int p1), (.int p0)])) _
      refine XS.icmpYes X0.here hx rfl (pc0 := 2) (pc' := 9) rfl (hb hby d2_2) rfl (tlt hc2_1).1 (by decide) (by decide) ?_
      show Steps p.tables e below (s₁.setTop (mkF m 9 #[.val (.int p0), .val (.int p1)] [])) _
      refine XS.iloadN X0.here hx rfl (hb hby d2_9) rfl  ?_
      exact k2
    · have k2 : Steps p.tables e below (s₁.setTop (mkF m 10 #[.val (.int p0), .val (.int p1)] [(.int p0)])) t := by simpa only [hz1_s0, if_neg hc2_1] using k
      show Steps p.tables e below (s₁.setTop (mkF m 2 #[.val (.int p0), .val (.int p1)] [(.int p1), (.int p0)])) _
      refine XS.icmpNo X0.here hx rfl (hb hby d2_2) rfl (flt hc2_1).1 ?_
      show Steps p.tables e below (s₁.setTop (mkF m 5 #[.val (.int p0), .val (.int p1)] [])) _
      refine XS.iloadN X0.here hx rfl (hb hby d2_5) rfl  ?_
      show Steps p.tables e below (s₁.setTop (mkF m 6 #[.val (.int p0), .val (.int p1)] [(.int p0)])) _
      refine XS.goto X0.here hx rfl (pc0 := 6) (pc' := 10) rfl (hb hby d2_6) (by decide) (by decide) ?_
      exact k2
  refine Goes.go sm1 ?_
  show Goes p e below s _ _ _ (s₁.setTop (mkF m 10 #[.val (.int p0), .val (.int p1)] [(.int z1_s0)]))
  refine Goes.retI X0 hx hlk Bd.returns (hb hby d2_10) ?_ (by decide) (by decide)
  exact ⟨by subst hz1_s0; rfl, N0, e0⟩
theorem d3_0 : decode method_3_code 0 = .ok (.iload_n 2, 1) := by decide +kernel
theorem d3_1 : decode method_3_code 1 = .ok (.iload_n 1, 1) := by decide +kernel
theorem d3_2 : decode method_3_code 2 = .ok (.if_icmp .gt 16, 3) := by decide +kernel
theorem d3_5 : decode method_3_code 5 = .ok (.iload_n 1, 1) := by decide +kernel
theorem d3_6 : decode method_3_code 6 = .ok (.iload_n 3, 1) := by decide +kernel
theorem d3_7 : decode method_3_code 7 = .ok (.if_icmp .ge 11, 3) := by decide +kernel
theorem d3_10 : decode method_3_code 10 = .ok (.aload_n 0, 1) := by decide +kernel
theorem d3_11 : decode method_3_code 11 = .ok (.iload_n 1, 1) := by decide +kernel
theorem d3_12 : decode method_3_code 12 = .ok (.baload, 1) := by decide +kernel
theorem d3_13 : decode method_3_code 13 = .ok (.sipush 255, 3) := by decide +kernel
theorem d3_16 : decode method_3_code 16 = .ok (.iand, 1) := by decide +kernel
theorem d3_17 : decode method_3_code 17 = .ok (.ireturn, 1) := by decide +kernel
theorem d3_18 : decode method_3_code 18 = .ok (.iconst 0, 1) := by decide +kernel
theorem d3_19 : decode method_3_code 19 = .ok (.ireturn, 1) := by decide +kernel
theorem pn_3 : plainName "org/cardprobe/CheckCharacterXorPinLaw" = true := by first | (simp [plainName, overriddenIn]; done) | decide +kernel
theorem ef_rm3 (m : MethodId) (x0 : Addr) (x1 : Int32) (x2 : Int32) (x3 : Int32) : entryFrame m #[(.ref x0), (.int x1), (.int x2), (.int x3)] 4 = mkF m 0 #[.val (.ref x0), .val (.int x1), .val (.int x2), .val (.int x3)] [] := by first | (simp [entryFrame, mkF, argsToLocals, Value.category]; done) | rfl
def f3_18 (r0 : Addr) (p1 : Int32) (p2 : Int32) (p3 : Int32) (n_r0 : Nat) (v_r0 : Nat → Int32) (kn : Nat) : Int32 := (0 : Int32)
def f3 (r0 : Addr) (p1 : Int32) (p2 : Int32) (p3 : Int32) (n_r0 : Nat) (v_r0 : Nat → Int32) (kn : Nat) : Int32 := (if p1 < p2 then (f3_18 r0 p1 p2 p3 n_r0 v_r0 kn) else (if p1 < p3 then ((v_r0 kn) &&& (255 : Int32)) else (f3_18 r0 p1 p2 p3 n_r0 v_r0 kn)))
set_option maxRecDepth 65536 in
set_option maxHeartbeats 40000000 in
theorem rm3 (l : Launch) (Z : State) (a0 : Array Value) (hw : ∀ d ∈ tables_1, d.before a0 Z = true) (ws : List Jvm.Cond) (r0 : Addr) (p1 : Int32) (p2 : Int32) (p3 : Int32) (n_r0 : Nat) (v_r0 : Nat → Int32) (kn : Nat) (h0 : Heap) (n0 : Nat) (Z0 : n0 ≤ h0.size) (A_r0 : IA Z h0 r0 .byte n_r0 v_r0) (hk : p1 = Int32.ofNat kn) (hkn : kn < n_r0) :
    MetFree l (⟨"org/cardprobe/CheckCharacterXorPinLaw", "part", "([BIII)I"⟩ : MethodName) (head1 (Jvm.Cond.code (⟨"org/cardprobe/CheckCharacterXorPinLaw", "part", "([BIII)I"⟩ : MethodName) method_3_code 4 (some .int) :: ws) ({ frames := 0, cells := 0, slots := 0, locals := 0 } : Room)) (fun a U => a = #[(.ref r0), (.int p1), (.int p2), (.int p3)] ∧ Z.Warmed39 U.vm ∧ U.heap = h0) (fun _ _ _ _ _ => True) (fun _ U o U' => ∃ v L, o = .returned v ∧ Qp (.int (f3 r0 p1 p2 p3 n_r0 v_r0 kn)) h0 n0 v U'.heap L ∧ FrameEnd U o U' L ({ frames := 0, cells := 0, slots := 0, locals := 0 } : Room).cells ({ frames := 0, cells := 0, slots := 0, locals := 0 } : Room).slots) := by
  refine MetFree.of_bodySF (plainFor_of_name pn_3) hisR ?_
  intro p e s m args below meth c s₁ Bd hml0 hP hK
  obtain ⟨rfl, hZ, hh⟩ := hP
  have hx := Bd.exec
  have hby := Bd.bytes
  have hml : c.maxLocals = 4 := hml0
  have hown : s.vm.findClass "org/cardprobe/CheckCharacterXorPinLaw" = some m.cls := findClass_of_methodNamed Bd.named
  have hnm := (name_of_methodNamed Bd.named Bd.method).1
  have hlk : meth.locks = false := BodyLoose.notSynchronized Bd
  have X0 : Stand p l e ({ frames := 0, cells := 0, slots := 0, locals := 0 } : Room) s m #[(.ref r0), (.int p1), (.int p2), (.int p3)] below meth c s₁ [] 0 0 := Stand.of_body Bd
  have e0 : s₁.heap = h0 := by rw [← hh, Bd.state]; rfl
  have N0 := Fr.nil n0
  have K0 : Keep h0 h0 [] := Keep.refl _ _
  show Goes p e below s (Qp (.int (f3 r0 p1 p2 p3 n_r0 v_r0 kn)) h0 n0) ({ frames := 0, cells := 0, slots := 0, locals := 0 } : Room).cells ({ frames := 0, cells := 0, slots := 0, locals := 0 } : Room).slots (s₁.setTop (entryFrame m #[(.ref r0), (.int p1), (.int p2), (.int p3)] 4))
  rw [ef_rm3]
  have J18 : ∀ {TJ : State} {lj : List Loc} (XJ : Stand p l e ({ frames := 0, cells := 0, slots := 0, locals := 0 } : Room) s m #[(.ref r0), (.int p1), (.int p2), (.int p3)] below meth c TJ lj 0 0) (eJ : TJ.heap = h0) (NJ : Fr n0 lj), Goes p e below s (Qp (.int (f3_18 r0 p1 p2 p3 n_r0 v_r0 kn)) h0 n0) ({ frames := 0, cells := 0, slots := 0, locals := 0 } : Room).cells ({ frames := 0, cells := 0, slots := 0, locals := 0 } : Room).slots (TJ.setTop (mkF m 18 #[.val (.ref r0), .val (.int p1), .val (.int p2), .val (.int p3)] [])) := by
    intro TJ lj XJ eJ NJ
    show Goes p e below s _ _ _ (TJ.setTop (mkF m 18 #[.val (.ref r0), .val (.int p1), .val (.int p2), .val (.int p3)] []))
    refine Goes.go (fun _ k => XS.iconst XJ.here hx rfl (hb hby d3_18) k) ?_
    show Goes p e below s _ _ _ (TJ.setTop (mkF m 19 #[.val (.ref r0), .val (.int p1), .val (.int p2), .val (.int p3)] [(.int (0 : Int32))]))
    refine Goes.retI XJ hx hlk Bd.returns (hb hby d3_19) ?_ (by decide) (by decide)
    exact ⟨by rfl, NJ, eJ⟩
  show Goes p e below s _ _ _ (s₁.setTop (mkF m 0 #[.val (.ref r0), .val (.int p1), .val (.int p2), .val (.int p3)] []))
  refine Goes.go (fun _ k => XS.iloadN X0.here hx rfl (hb hby d3_0) rfl  k) ?_
  show Goes p e below s _ _ _ (s₁.setTop (mkF m 1 #[.val (.ref r0), .val (.int p1), .val (.int p2), .val (.int p3)] [(.int p2)]))
  refine Goes.go (fun _ k => XS.iloadN X0.here hx rfl (hb hby d3_1) rfl  k) ?_
  show Goes p e below s _ _ _ (s₁.setTop (mkF m 2 #[.val (.ref r0), .val (.int p1), .val (.int p2), .val (.int p3)] [(.int p1), (.int p2)]))
  by_cases hc2_1 : p1 < p2
  · skip
    refine Goes.qi (if_pos hc2_1) ?_
    refine Goes.go (fun _ k => XS.icmpYes X0.here hx rfl (pc0 := 2) (pc' := 18) rfl (hb hby d3_2) rfl (tlt hc2_1).2.2.1 (by decide) (by decide) k) ?_
    exact J18 X0 e0 N0
  · skip
    refine Goes.qi (if_neg hc2_1) ?_
    refine Goes.go (fun _ k => XS.icmpNo X0.here hx rfl (hb hby d3_2) rfl (flt hc2_1).2.2.1 k) ?_
    show Goes p e below s _ _ _ (s₁.setTop (mkF m 5 #[.val (.ref r0), .val (.int p1), .val (.int p2), .val (.int p3)] []))
    refine Goes.go (fun _ k => XS.iloadN X0.here hx rfl (hb hby d3_5) rfl  k) ?_
    show Goes p e below s _ _ _ (s₁.setTop (mkF m 6 #[.val (.ref r0), .val (.int p1), .val (.int p2), .val (.int p3)] [(.int p1)]))
    refine Goes.go (fun _ k => XS.iloadN X0.here hx rfl (hb hby d3_6) rfl  k) ?_
    show Goes p e below s _ _ _ (s₁.setTop (mkF m 7 #[.val (.ref r0), .val (.int p1), .val (.int p2), .val (.int p3)] [(.int p3), (.int p1)]))
    by_cases hc7_2 : p1 < p3
    · skip
      refine Goes.qi (if_pos hc7_2) ?_
      refine Goes.go (fun _ k => XS.icmpNo X0.here hx rfl (hb hby d3_7) rfl (tlt hc7_2).2.1 k) ?_
      show Goes p e below s _ _ _ (s₁.setTop (mkF m 10 #[.val (.ref r0), .val (.int p1), .val (.int p2), .val (.int p3)] []))
      refine Goes.go (fun _ k => XS.aloadN X0.here hx rfl (hb hby d3_10) rfl rfl  k) ?_
      show Goes p e below s _ _ _ (s₁.setTop (mkF m 11 #[.val (.ref r0), .val (.int p1), .val (.int p2), .val (.int p3)] [(.ref r0)]))
      refine Goes.go (fun _ k => XS.iloadN X0.here hx rfl (hb hby d3_11) rfl  k) ?_
      show Goes p e below s _ _ _ (s₁.setTop (mkF m 12 #[.val (.ref r0), .val (.int p1), .val (.int p2), .val (.int p3)] [(.int p1), (.ref r0)]))
      refine Goes.go (own_ldB X0 hx hZ e0 A_r0 (i := kn) hk hkn (g := (mkF m 12 #[.val (.ref r0), .val (.int p1), .val (.int p2), .val (.int p3)] [(.int p1), (.ref r0)])) rfl rfl (hb hby d3_12)) ?_
      show Goes p e below s _ _ _ (s₁.setTop (mkF m 13 #[.val (.ref r0), .val (.int p1), .val (.int p2), .val (.int p3)] [(.int (v_r0 kn))]))
      refine Goes.go (fun _ k => XS.sipush X0.here hx rfl (hb hby d3_13) k) ?_
      show Goes p e below s _ _ _ (s₁.setTop (mkF m 16 #[.val (.ref r0), .val (.int p1), .val (.int p2), .val (.int p3)] [(.int (255 : Int32)), (.int (v_r0 kn))]))
      refine Goes.go (fun _ k => XS.iand X0.here hx rfl (hb hby d3_16) rfl k) ?_
      show Goes p e below s _ _ _ (s₁.setTop (mkF m 17 #[.val (.ref r0), .val (.int p1), .val (.int p2), .val (.int p3)] [(.int ((v_r0 kn) &&& (255 : Int32)))]))
      refine Goes.retI X0 hx hlk Bd.returns (hb hby d3_17) ?_ (by decide) (by decide)
      exact ⟨by rfl, N0, e0⟩
    · skip
      refine Goes.qi (if_neg hc7_2) ?_
      refine Goes.go (fun _ k => XS.icmpYes X0.here hx rfl (pc0 := 7) (pc' := 18) rfl (hb hby d3_7) rfl (flt hc7_2).2.1 (by decide) (by decide) k) ?_
      exact J18 X0 e0 N0
def own_x (v : Nat → Int32) : Nat → Nat → Int32 → Int32
  | 0, _, acc => acc
  | k + 1, i, acc => own_x v k (i + 1) (acc ^^^ (v i &&& (255 : Int32)))
theorem d4_0 : decode prog_37_method_2_code 0 = .ok (.iconst 0, 1) := by decide +kernel
theorem d4_1 : decode prog_37_method_2_code 1 = .ok (.istore_n 3, 1) := by decide +kernel
theorem d4_2 : decode prog_37_method_2_code 2 = .ok (.iload_n 1, 1) := by decide +kernel
theorem d4_3 : decode prog_37_method_2_code 3 = .ok (.istore 4, 2) := by decide +kernel
theorem d4_5 : decode prog_37_method_2_code 5 = .ok (.iload 4, 2) := by decide +kernel
theorem d4_7 : decode prog_37_method_2_code 7 = .ok (.iload_n 2, 1) := by decide +kernel
theorem d4_8 : decode prog_37_method_2_code 8 = .ok (.if_icmp .ge 20, 3) := by decide +kernel
theorem d4_11 : decode prog_37_method_2_code 11 = .ok (.iload_n 3, 1) := by decide +kernel
theorem d4_12 : decode prog_37_method_2_code 12 = .ok (.aload_n 0, 1) := by decide +kernel
theorem d4_13 : decode prog_37_method_2_code 13 = .ok (.iload 4, 2) := by decide +kernel
theorem d4_15 : decode prog_37_method_2_code 15 = .ok (.baload, 1) := by decide +kernel
theorem d4_16 : decode prog_37_method_2_code 16 = .ok (.sipush 255, 3) := by decide +kernel
theorem d4_19 : decode prog_37_method_2_code 19 = .ok (.iand, 1) := by decide +kernel
theorem d4_20 : decode prog_37_method_2_code 20 = .ok (.ixor, 1) := by decide +kernel
theorem d4_21 : decode prog_37_method_2_code 21 = .ok (.istore_n 3, 1) := by decide +kernel
theorem d4_22 : decode prog_37_method_2_code 22 = .ok (.iinc 4 1, 3) := by decide +kernel
theorem d4_25 : decode prog_37_method_2_code 25 = .ok (.goto (-20), 3) := by decide +kernel
theorem d4_28 : decode prog_37_method_2_code 28 = .ok (.iload_n 3, 1) := by decide +kernel
theorem d4_29 : decode prog_37_method_2_code 29 = .ok (.ireturn, 1) := by decide +kernel
theorem pn_4 : plainName "org/cardprobe/CheckCharacter" = true := by first | (simp [plainName, overriddenIn]; done) | decide +kernel
theorem ef_rm4 (m : MethodId) (x0 : Addr) (x1 : Int32) (x2 : Int32) : entryFrame m #[(.ref x0), (.int x1), (.int x2)] 5 = mkF m 0 #[.val (.ref x0), .val (.int x1), .val (.int x2), .unset, .unset] [] := by first | (simp [entryFrame, mkF, argsToLocals, Value.category]; done) | rfl
set_option maxRecDepth 65536 in
set_option maxHeartbeats 40000000 in
theorem rm4 (l : Launch) (Z : State) (a0 : Array Value) (hw : ∀ d ∈ tables_1, d.before a0 Z = true) (ws : List Jvm.Cond) (r0 : Addr) (n_r0 : Nat) (v_r0 : Nat → Int32) (na : Nat) (nb : Nat) (h0 : Heap) (n0 : Nat) (Z0 : n0 ≤ h0.size) (A_r0 : IA Z h0 r0 .byte n_r0 v_r0) (hab : na ≤ nb) (hbn : nb ≤ n_r0) :
    MetFree l (⟨"org/cardprobe/CheckCharacter", "xor", "([BII)I"⟩ : MethodName) (head1 (Jvm.Cond.code (⟨"org/cardprobe/CheckCharacter", "xor", "([BII)I"⟩ : MethodName) prog_37_method_2_code 5 (some .int) :: ws) ({ frames := 0, cells := 0, slots := 0, locals := 0 } : Room)) (fun a U => a = #[(.ref r0), (.int (Int32.ofNat na)), (.int (Int32.ofNat nb))] ∧ Z.Warmed39 U.vm ∧ U.heap = h0) (fun _ _ _ _ _ => True) (fun _ U o U' => ∃ v L, o = .returned v ∧ Qp (.int (own_x v_r0 (nb - na) na 0)) h0 n0 v U'.heap L ∧ FrameEnd U o U' L ({ frames := 0, cells := 0, slots := 0, locals := 0 } : Room).cells ({ frames := 0, cells := 0, slots := 0, locals := 0 } : Room).slots) := by
  refine MetFree.of_bodySF (plainFor_of_name pn_4) hisR ?_
  intro p e s m args below meth c s₁ Bd hml0 hP hK
  obtain ⟨rfl, hZ, hh⟩ := hP
  have hx := Bd.exec
  have hby := Bd.bytes
  have hml : c.maxLocals = 5 := hml0
  have hown : s.vm.findClass "org/cardprobe/CheckCharacter" = some m.cls := findClass_of_methodNamed Bd.named
  have hnm := (name_of_methodNamed Bd.named Bd.method).1
  have hlk : meth.locks = false := BodyLoose.notSynchronized Bd
  have X0 : Stand p l e ({ frames := 0, cells := 0, slots := 0, locals := 0 } : Room) s m #[(.ref r0), (.int (Int32.ofNat na)), (.int (Int32.ofNat nb))] below meth c s₁ [] 0 0 := Stand.of_body Bd
  have e0 : s₁.heap = h0 := by rw [← hh, Bd.state]; rfl
  have N0 := Fr.nil n0
  have K0 : Keep h0 h0 [] := Keep.refl _ _
  show Goes p e below s (Qp (.int (own_x v_r0 (nb - na) na 0)) h0 n0) ({ frames := 0, cells := 0, slots := 0, locals := 0 } : Room).cells ({ frames := 0, cells := 0, slots := 0, locals := 0 } : Room).slots (s₁.setTop (entryFrame m #[(.ref r0), (.int (Int32.ofNat na)), (.int (Int32.ofNat nb))] 5))
  rw [ef_rm4]
  have hn31 := A_r0.bound
  have LP : ∀ (k i : Nat) (acc : Int32) {TJ : State} {lj : List Loc} (XJ : Stand p l e ({ frames := 0, cells := 0, slots := 0, locals := 0 } : Room) s m #[(.ref r0), (.int (Int32.ofNat na)), (.int (Int32.ofNat nb))] below meth c TJ lj 0 0) (eJ : TJ.heap = h0) (NJ : Fr n0 lj) (hk : i + k = nb), Goes p e below s (Qp (.int (own_x v_r0 k i acc)) h0 n0) ({ frames := 0, cells := 0, slots := 0, locals := 0 } : Room).cells ({ frames := 0, cells := 0, slots := 0, locals := 0 } : Room).slots (TJ.setTop (mkF m 5 #[.val (.ref r0), .val (.int (Int32.ofNat na)), .val (.int (Int32.ofNat nb)), .val (.int acc), .val (.int (Int32.ofNat i))] [])) := by
    intro k
    induction k with
    | zero =>
      intro i acc TJ lj XJ eJ NJ hk
      show Goes p e below s _ _ _ (TJ.setTop (mkF m 5 #[.val (.ref r0), .val (.int (Int32.ofNat na)), .val (.int (Int32.ofNat nb)), .val (.int acc), .val (.int (Int32.ofNat i))] []))
      refine Goes.go (fun _ k => XS.iload XJ.here hx rfl (hb hby d4_5) rfl  k) ?_
      show Goes p e below s _ _ _ (TJ.setTop (mkF m 7 #[.val (.ref r0), .val (.int (Int32.ofNat na)), .val (.int (Int32.ofNat nb)), .val (.int acc), .val (.int (Int32.ofNat i))] [(.int (Int32.ofNat i))]))
      refine Goes.go (fun _ k => XS.iloadN XJ.here hx rfl (hb hby d4_7) rfl  k) ?_
      show Goes p e below s _ _ _ (TJ.setTop (mkF m 8 #[.val (.ref r0), .val (.int (Int32.ofNat na)), .val (.int (Int32.ofNat nb)), .val (.int acc), .val (.int (Int32.ofNat i))] [(.int (Int32.ofNat nb)), (.int (Int32.ofNat i))]))
      have hc8_1 : ¬ ((Int32.ofNat i) < (Int32.ofNat nb)) := fun q => by have := (own_lt (by omega) (by omega)).mp q; omega
      refine Goes.go (fun _ k => XS.icmpYes XJ.here hx rfl (pc0 := 8) (pc' := 28) rfl (hb hby d4_8) rfl (flt hc8_1).2.1 (by decide) (by decide) k) ?_
      show Goes p e below s _ _ _ (TJ.setTop (mkF m 28 #[.val (.ref r0), .val (.int (Int32.ofNat na)), .val (.int (Int32.ofNat nb)), .val (.int acc), .val (.int (Int32.ofNat i))] []))
      refine Goes.go (fun _ k => XS.iloadN XJ.here hx rfl (hb hby d4_28) rfl  k) ?_
      show Goes p e below s _ _ _ (TJ.setTop (mkF m 29 #[.val (.ref r0), .val (.int (Int32.ofNat na)), .val (.int (Int32.ofNat nb)), .val (.int acc), .val (.int (Int32.ofNat i))] [(.int acc)]))
      refine Goes.retI XJ hx hlk Bd.returns (hb hby d4_29) ?_ (by decide) (by decide)
      exact ⟨rfl, NJ, eJ⟩
    | succ k ih =>
      intro i acc TJ lj XJ eJ NJ hk
      show Goes p e below s _ _ _ (TJ.setTop (mkF m 5 #[.val (.ref r0), .val (.int (Int32.ofNat na)), .val (.int (Int32.ofNat nb)), .val (.int acc), .val (.int (Int32.ofNat i))] []))
      refine Goes.go (fun _ k => XS.iload XJ.here hx rfl (hb hby d4_5) rfl  k) ?_
      show Goes p e below s _ _ _ (TJ.setTop (mkF m 7 #[.val (.ref r0), .val (.int (Int32.ofNat na)), .val (.int (Int32.ofNat nb)), .val (.int acc), .val (.int (Int32.ofNat i))] [(.int (Int32.ofNat i))]))
      refine Goes.go (fun _ k => XS.iloadN XJ.here hx rfl (hb hby d4_7) rfl  k) ?_
      show Goes p e below s _ _ _ (TJ.setTop (mkF m 8 #[.val (.ref r0), .val (.int (Int32.ofNat na)), .val (.int (Int32.ofNat nb)), .val (.int acc), .val (.int (Int32.ofNat i))] [(.int (Int32.ofNat nb)), (.int (Int32.ofNat i))]))
      have hc8_2 : (Int32.ofNat i) < (Int32.ofNat nb) := (own_lt (by omega) (by omega)).mpr (by omega)
      refine Goes.go (fun _ k => XS.icmpNo XJ.here hx rfl (hb hby d4_8) rfl (tlt hc8_2).2.1 k) ?_
      show Goes p e below s _ _ _ (TJ.setTop (mkF m 11 #[.val (.ref r0), .val (.int (Int32.ofNat na)), .val (.int (Int32.ofNat nb)), .val (.int acc), .val (.int (Int32.ofNat i))] []))
      refine Goes.go (fun _ k => XS.iloadN XJ.here hx rfl (hb hby d4_11) rfl  k) ?_
      show Goes p e below s _ _ _ (TJ.setTop (mkF m 12 #[.val (.ref r0), .val (.int (Int32.ofNat na)), .val (.int (Int32.ofNat nb)), .val (.int acc), .val (.int (Int32.ofNat i))] [(.int acc)]))
      refine Goes.go (fun _ k => XS.aloadN XJ.here hx rfl (hb hby d4_12) rfl rfl  k) ?_
      show Goes p e below s _ _ _ (TJ.setTop (mkF m 13 #[.val (.ref r0), .val (.int (Int32.ofNat na)), .val (.int (Int32.ofNat nb)), .val (.int acc), .val (.int (Int32.ofNat i))] [(.ref r0), (.int acc)]))
      refine Goes.go (fun _ k => XS.iload XJ.here hx rfl (hb hby d4_13) rfl  k) ?_
      show Goes p e below s _ _ _ (TJ.setTop (mkF m 15 #[.val (.ref r0), .val (.int (Int32.ofNat na)), .val (.int (Int32.ofNat nb)), .val (.int acc), .val (.int (Int32.ofNat i))] [(.int (Int32.ofNat i)), (.ref r0), (.int acc)]))
      refine Goes.go (own_ldB XJ hx hZ eJ A_r0 (i := i) rfl (by omega) (g := (mkF m 15 #[.val (.ref r0), .val (.int (Int32.ofNat na)), .val (.int (Int32.ofNat nb)), .val (.int acc), .val (.int (Int32.ofNat i))] [(.int (Int32.ofNat i)), (.ref r0), (.int acc)])) rfl rfl (hb hby d4_15)) ?_
      show Goes p e below s _ _ _ (TJ.setTop (mkF m 16 #[.val (.ref r0), .val (.int (Int32.ofNat na)), .val (.int (Int32.ofNat nb)), .val (.int acc), .val (.int (Int32.ofNat i))] [(.int (v_r0 i)), (.int acc)]))
      refine Goes.go (fun _ k => XS.sipush XJ.here hx rfl (hb hby d4_16) k) ?_
      show Goes p e below s _ _ _ (TJ.setTop (mkF m 19 #[.val (.ref r0), .val (.int (Int32.ofNat na)), .val (.int (Int32.ofNat nb)), .val (.int acc), .val (.int (Int32.ofNat i))] [(.int (255 : Int32)), (.int (v_r0 i)), (.int acc)]))
      refine Goes.go (fun _ k => XS.iand XJ.here hx rfl (hb hby d4_19) rfl k) ?_
      show Goes p e below s _ _ _ (TJ.setTop (mkF m 20 #[.val (.ref r0), .val (.int (Int32.ofNat na)), .val (.int (Int32.ofNat nb)), .val (.int acc), .val (.int (Int32.ofNat i))] [(.int ((v_r0 i) &&& (255 : Int32))), (.int acc)]))
      refine Goes.go (fun _ k => XS.ixor XJ.here hx rfl (hb hby d4_20) rfl k) ?_
      show Goes p e below s _ _ _ (TJ.setTop (mkF m 21 #[.val (.ref r0), .val (.int (Int32.ofNat na)), .val (.int (Int32.ofNat nb)), .val (.int acc), .val (.int (Int32.ofNat i))] [(.int (acc ^^^ ((v_r0 i) &&& (255 : Int32))))]))
      refine Goes.go (fun _ k => XS.istoreN XJ.here hx rfl (hb hby d4_21) rfl (l' := #[.val (.ref r0), .val (.int (Int32.ofNat na)), .val (.int (Int32.ofNat nb)), .val (.int (acc ^^^ ((v_r0 i) &&& (255 : Int32)))), .val (.int (Int32.ofNat i))]) rfl k) ?_
      show Goes p e below s _ _ _ (TJ.setTop (mkF m 22 #[.val (.ref r0), .val (.int (Int32.ofNat na)), .val (.int (Int32.ofNat nb)), .val (.int (acc ^^^ ((v_r0 i) &&& (255 : Int32)))), .val (.int (Int32.ofNat i))] []))
      refine Goes.go (fun _ k => XS.iinc XJ.here hx rfl (hb hby d4_22) rfl (l' := #[.val (.ref r0), .val (.int (Int32.ofNat na)), .val (.int (Int32.ofNat nb)), .val (.int (acc ^^^ ((v_r0 i) &&& (255 : Int32)))), .val (.int ((Int32.ofNat i) + (1 : Int32)))]) rfl k) ?_
      rw [show (Int32.ofNat i + (1 : Int32)) = Int32.ofNat (i + 1) from own_add (n := 1) (by omega)]
      show Goes p e below s _ _ _ (TJ.setTop (mkF m 25 #[.val (.ref r0), .val (.int (Int32.ofNat na)), .val (.int (Int32.ofNat nb)), .val (.int (acc ^^^ ((v_r0 i) &&& (255 : Int32)))), .val (.int (Int32.ofNat (i + 1)))] []))
      refine Goes.go (fun _ k => XS.goto XJ.here hx rfl (pc0 := 25) (pc' := 5) rfl (hb hby d4_25) (by decide) (by decide) k) ?_
      exact ih (i + 1) _ XJ eJ NJ (by omega)
  show Goes p e below s _ _ _ (s₁.setTop (mkF m 0 #[.val (.ref r0), .val (.int (Int32.ofNat na)), .val (.int (Int32.ofNat nb)), .unset, .unset] []))
  refine Goes.go (fun _ k => XS.iconst X0.here hx rfl (hb hby d4_0) k) ?_
  show Goes p e below s _ _ _ (s₁.setTop (mkF m 1 #[.val (.ref r0), .val (.int (Int32.ofNat na)), .val (.int (Int32.ofNat nb)), .unset, .unset] [(.int (0 : Int32))]))
  refine Goes.go (fun _ k => XS.istoreN X0.here hx rfl (hb hby d4_1) rfl (l' := #[.val (.ref r0), .val (.int (Int32.ofNat na)), .val (.int (Int32.ofNat nb)), .val (.int (0 : Int32)), .unset]) rfl k) ?_
  show Goes p e below s _ _ _ (s₁.setTop (mkF m 2 #[.val (.ref r0), .val (.int (Int32.ofNat na)), .val (.int (Int32.ofNat nb)), .val (.int (0 : Int32)), .unset] []))
  refine Goes.go (fun _ k => XS.iloadN X0.here hx rfl (hb hby d4_2) rfl  k) ?_
  show Goes p e below s _ _ _ (s₁.setTop (mkF m 3 #[.val (.ref r0), .val (.int (Int32.ofNat na)), .val (.int (Int32.ofNat nb)), .val (.int (0 : Int32)), .unset] [(.int (Int32.ofNat na))]))
  refine Goes.go (fun _ k => XS.istore X0.here hx rfl (hb hby d4_3) rfl (l' := #[.val (.ref r0), .val (.int (Int32.ofNat na)), .val (.int (Int32.ofNat nb)), .val (.int (0 : Int32)), .val (.int (Int32.ofNat na))]) rfl k) ?_
  exact LP (nb - na) na 0 X0 e0 N0 (by omega)
theorem own_ab {nx ny : Nat} (hx : nx < 7) (hy : ny < 7) : ∃ na nb : Nat, na ≤ nb ∧ nb ≤ 6 ∧ (f1 (Int32.ofNat nx) (Int32.ofNat ny)) = Int32.ofNat na ∧ (f2 (Int32.ofNat nx) (Int32.ofNat ny)) = Int32.ofNat nb := by
  unfold f1 f2
  by_cases h : ny < nx
  · rw [if_pos ((own_lt (by omega) (by omega)).mpr h), if_neg (fun q => by have := (own_lt (by omega) (by omega)).mp q; omega)]
    exact ⟨ny, nx, by omega, by omega, rfl, rfl⟩
  · rw [if_neg (fun q => by have := (own_lt (by omega) (by omega)).mp q; omega)]
    by_cases h2 : nx < ny
    · rw [if_pos ((own_lt (by omega) (by omega)).mpr h2)]
      exact ⟨nx, ny, by omega, by omega, rfl, rfl⟩
    · rw [if_neg (fun q => by have := (own_lt (by omega) (by omega)).mp q; omega)]
      exact ⟨nx, nx, by omega, by omega, rfl, rfl⟩
theorem own_law (r : Addr) (v : Nat → Int32) (a b : Nat) (hab : a ≤ b) (hb6 : b ≤ 6) : own_x v (b - a) a 0 = ((((((f3 r (0 : Int32) (Int32.ofNat a) (Int32.ofNat b) 6 v 0) ^^^ (f3 r (1 : Int32) (Int32.ofNat a) (Int32.ofNat b) 6 v 1)) ^^^ (f3 r (2 : Int32) (Int32.ofNat a) (Int32.ofNat b) 6 v 2)) ^^^ (f3 r (3 : Int32) (Int32.ofNat a) (Int32.ofNat b) 6 v 3)) ^^^ (f3 r (4 : Int32) (Int32.ofNat a) (Int32.ofNat b) 6 v 4)) ^^^ (f3 r (5 : Int32) (Int32.ofNat a) (Int32.ofNat b) 6 v 5)) := by
  have ha : a = 0 ∨ a = 1 ∨ a = 2 ∨ a = 3 ∨ a = 4 ∨ a = 5 ∨ a = 6 := by omega
  have hb : b = 0 ∨ b = 1 ∨ b = 2 ∨ b = 3 ∨ b = 4 ∨ b = 5 ∨ b = 6 := by omega
  rcases ha with rfl | rfl | rfl | rfl | rfl | rfl | rfl <;> rcases hb with rfl | rfl | rfl | rfl | rfl | rfl | rfl <;> first | omega | (simp +decide [own_x, f3, f3_18])
theorem pn_0 : plainName "org/cardprobe/CheckCharacterXorPinLaw" = true := by first | (simp [plainName, overriddenIn]; done) | decide +kernel
theorem ef_rm0 (m : MethodId) (x0 : Int32) (x1 : Int32) (x2 : Int32) (x3 : Int32) : entryFrame m #[(.int x0), (.int x1), (.int x2), (.int x3)] maxLocals = mkF m 0 #[.val (.int x0), .val (.int x1), .val (.int x2), .val (.int x3), .unset, .unset, .unset, .unset, .unset, .unset] [] := by first | (simp [entryFrame, mkF, argsToLocals, Value.category, maxLocals]; done) | rfl
def Q0 (n0 : Nat) (v : Option Value) (h : Heap) (L : List Loc) : Prop := v = some (.int 1) ∧ Fr n0 L
set_option maxRecDepth 65536 in
set_option maxHeartbeats 40000000 in
theorem rm0 (l : Launch) (Z : State) (a0 : Array Value) (hw : ∀ d ∈ tables_1, d.before a0 Z = true) (ws : List Jvm.Cond) (p0 : Int32) (p1 : Int32) (p2 : Int32) (p3 : Int32) (h0 : Heap) (n0 : Nat) (Z0 : n0 ≤ h0.size) :
    MetFree l x (head1 (Jvm.Cond.code x code maxLocals ret :: ws) room_1) (fun a U => a = #[(.int p0), (.int p1), (.int p2), (.int p3)] ∧ Z.Warmed39 U.vm ∧ U.heap = h0) (fun _ _ _ _ _ => True) (fun _ U o U' => ∃ v L, o = .returned v ∧ Q0 n0 v U'.heap L ∧ FrameEnd U o U' L room_1.cells room_1.slots) := by
  refine MetFree.of_bodySF (plainFor_of_name pn_0) hisR ?_
  intro p e s m args below meth c s₁ Bd hml0 hP hK
  obtain ⟨rfl, hZ, hh⟩ := hP
  have hx := Bd.exec
  have hby := Bd.bytes
  have hml : c.maxLocals = 10 := hml0
  have hown : s.vm.findClass "org/cardprobe/CheckCharacterXorPinLaw" = some m.cls := findClass_of_methodNamed Bd.named
  have hnm := (name_of_methodNamed Bd.named Bd.method).1
  have hlk : meth.locks = false := BodyLoose.notSynchronized Bd
  have X0 : Stand p l e room_1 s m #[(.int p0), (.int p1), (.int p2), (.int p3)] below meth c s₁ [] 0 0 := Stand.of_body Bd
  have e0 : s₁.heap = h0 := by rw [← hh, Bd.state]; rfl
  have N0 := Fr.nil n0
  have K0 : Keep h0 h0 [] := Keep.refl _ _
  show Goes p e below s (Q0 n0) room_1.cells room_1.slots (s₁.setTop (entryFrame m #[(.int p0), (.int p1), (.int p2), (.int p3)] maxLocals))
  rw [ef_rm0]
  show Goes p e below s _ _ _ (s₁.setTop (mkF m 0 #[.val (.int p0), .val (.int p1), .val (.int p2), .val (.int p3), .unset, .unset, .unset, .unset, .unset, .unset] []))
  refine Goes.go (fun _ k => XS.bipush X0.here hx rfl (hb hby at_0) k) ?_
  show Goes p e below s _ _ _ (s₁.setTop (mkF m 2 #[.val (.int p0), .val (.int p1), .val (.int p2), .val (.int p3), .unset, .unset, .unset, .unset, .unset, .unset] [(.int (6 : Int32))]))
  obtain ⟨T1, h1, X1, e1, E1, A1, EA1, st1⟩ := own_newA X0 hx hZ (hw _ (List.mem_of_getElem? (i := 0) rfl)) e0 (g := (mkF m 2 #[.val (.int p0), .val (.int p1), .val (.int p2), .val (.int p3), .unset, .unset, .unset, .unset, .unset, .unset] [(.int (6 : Int32))])) rfl (hb hby at_2) rfl (n := 6) rfl (cap := 6) (Nat.le_refl _) (by decide) (by decide) (by decide) (by decide) (by decide) (by decide : _ = "[B")
  obtain ⟨b1, g1⟩ : ∃ z, z = h0.size := ⟨_, rfl⟩
  rw [← g1] at A1 EA1 st1
  have gb1 : n0 ≤ b1 := Nat.le_trans Z0 (Nat.le_of_eq g1.symm)
  have sb1 : h0.size ≤ b1 := Nat.le_trans K0.1 (Nat.le_of_eq g1.symm)
  have Z1 := Nat.le_trans Z0 E1.1
  have K1 := Keep.ext K0 E1
  refine Goes.go st1 ?_
  show Goes p e below s _ _ _ (T1.setTop (mkF m 4 #[.val (.int p0), .val (.int p1), .val (.int p2), .val (.int p3), .unset, .unset, .unset, .unset, .unset, .unset] [(.ref b1)]))
  refine Goes.go (fun _ k => XS.astore X1.here hx rfl (hb hby at_4) rfl rfl (l' := #[.val (.int p0), .val (.int p1), .val (.int p2), .val (.int p3), .val (.ref b1), .unset, .unset, .unset, .unset, .unset]) rfl k) ?_
  show Goes p e below s _ _ _ (T1.setTop (mkF m 6 #[.val (.int p0), .val (.int p1), .val (.int p2), .val (.int p3), .val (.ref b1), .unset, .unset, .unset, .unset, .unset] []))
  refine Goes.go (fun _ k => XS.aload X1.here hx rfl (hb hby at_6) rfl rfl  k) ?_
  show Goes p e below s _ _ _ (T1.setTop (mkF m 8 #[.val (.int p0), .val (.int p1), .val (.int p2), .val (.int p3), .val (.ref b1), .unset, .unset, .unset, .unset, .unset] [(.ref b1)]))
  refine Goes.go (fun _ k => XS.iconst X1.here hx rfl (hb hby at_8) k) ?_
  show Goes p e below s _ _ _ (T1.setTop (mkF m 9 #[.val (.int p0), .val (.int p1), .val (.int p2), .val (.int p3), .val (.ref b1), .unset, .unset, .unset, .unset, .unset] [(.int (0 : Int32)), (.ref b1)]))
  refine Goes.go (fun _ k => XS.iloadN X1.here hx rfl (hb hby at_9) rfl  k) ?_
  show Goes p e below s _ _ _ (T1.setTop (mkF m 10 #[.val (.int p0), .val (.int p1), .val (.int p2), .val (.int p3), .val (.ref b1), .unset, .unset, .unset, .unset, .unset] [(.int p0), (.int (0 : Int32)), (.ref b1)]))
  refine Goes.go (fun _ k => XS.i2b X1.here hx rfl (hb hby at_10) rfl k) ?_
  show Goes p e below s _ _ _ (T1.setTop (mkF m 11 #[.val (.int p0), .val (.int p1), .val (.int p2), .val (.int p3), .val (.ref b1), .unset, .unset, .unset, .unset, .unset] [(.int (p0.toInt8.toInt32)), (.int (0 : Int32)), (.ref b1)]))
  obtain ⟨T2, h2, X2, e2, W2, A2, st2⟩ := own_stB X1 hx hZ e1 A1 (i := 0) rfl (by decide) (g := (mkF m 11 #[.val (.int p0), .val (.int p1), .val (.int p2), .val (.int p3), .val (.ref b1), .unset, .unset, .unset, .unset, .unset] [(.int (p0.toInt8.toInt32)), (.int (0 : Int32)), (.ref b1)])) rfl rfl (hb hby at_11)
  have N2 := Fr.snoc X2 N0 gb1
  have Z2 := Nat.le_trans Z1 (Keep.of_wr W2).1
  have K2 := Keep.wr K1 W2 (Or.inr sb1)
  refine Goes.go st2 ?_
  show Goes p e below s _ _ _ (T2.setTop (mkF m 12 #[.val (.int p0), .val (.int p1), .val (.int p2), .val (.int p3), .val (.ref b1), .unset, .unset, .unset, .unset, .unset] []))
  refine Goes.go (fun _ k => XS.aload X2.here hx rfl (hb hby at_12) rfl rfl  k) ?_
  show Goes p e below s _ _ _ (T2.setTop (mkF m 14 #[.val (.int p0), .val (.int p1), .val (.int p2), .val (.int p3), .val (.ref b1), .unset, .unset, .unset, .unset, .unset] [(.ref b1)]))
  refine Goes.go (fun _ k => XS.iconst X2.here hx rfl (hb hby at_14) k) ?_
  show Goes p e below s _ _ _ (T2.setTop (mkF m 15 #[.val (.int p0), .val (.int p1), .val (.int p2), .val (.int p3), .val (.ref b1), .unset, .unset, .unset, .unset, .unset] [(.int (1 : Int32)), (.ref b1)]))
  refine Goes.go (fun _ k => XS.iloadN X2.here hx rfl (hb hby at_15) rfl  k) ?_
  show Goes p e below s _ _ _ (T2.setTop (mkF m 16 #[.val (.int p0), .val (.int p1), .val (.int p2), .val (.int p3), .val (.ref b1), .unset, .unset, .unset, .unset, .unset] [(.int p0), (.int (1 : Int32)), (.ref b1)]))
  refine Goes.go (fun _ k => XS.bipush X2.here hx rfl (hb hby at_16) k) ?_
  show Goes p e below s _ _ _ (T2.setTop (mkF m 18 #[.val (.int p0), .val (.int p1), .val (.int p2), .val (.int p3), .val (.ref b1), .unset, .unset, .unset, .unset, .unset] [(.int (8 : Int32)), (.int p0), (.int (1 : Int32)), (.ref b1)]))
  refine Goes.go (fun _ k => XS.iushr X2.here hx rfl (hb hby at_18) rfl k) ?_
  show Goes p e below s _ _ _ (T2.setTop (mkF m 19 #[.val (.int p0), .val (.int p1), .val (.int p2), .val (.int p3), .val (.ref b1), .unset, .unset, .unset, .unset, .unset] [(.int ((p0.toUInt32 >>> ((8 : Int32) &&& 31).toUInt32).toInt32)), (.int (1 : Int32)), (.ref b1)]))
  refine Goes.go (fun _ k => XS.i2b X2.here hx rfl (hb hby at_19) rfl k) ?_
  show Goes p e below s _ _ _ (T2.setTop (mkF m 20 #[.val (.int p0), .val (.int p1), .val (.int p2), .val (.int p3), .val (.ref b1), .unset, .unset, .unset, .unset, .unset] [(.int (((p0.toUInt32 >>> ((8 : Int32) &&& 31).toUInt32).toInt32).toInt8.toInt32)), (.int (1 : Int32)), (.ref b1)]))
  obtain ⟨T3, h3, X3, e3, W3, A3, st3⟩ := own_stB X2 hx hZ e2 A2 (i := 1) rfl (by decide) (g := (mkF m 20 #[.val (.int p0), .val (.int p1), .val (.int p2), .val (.int p3), .val (.ref b1), .unset, .unset, .unset, .unset, .unset] [(.int (((p0.toUInt32 >>> ((8 : Int32) &&& 31).toUInt32).toInt32).toInt8.toInt32)), (.int (1 : Int32)), (.ref b1)])) rfl rfl (hb hby at_20)
  have N3 := Fr.snoc X3 N2 gb1
  have Z3 := Nat.le_trans Z2 (Keep.of_wr W3).1
  have K3 := Keep.wr K2 W3 (Or.inr sb1)
  refine Goes.go st3 ?_
  show Goes p e below s _ _ _ (T3.setTop (mkF m 21 #[.val (.int p0), .val (.int p1), .val (.int p2), .val (.int p3), .val (.ref b1), .unset, .unset, .unset, .unset, .unset] []))
  refine Goes.go (fun _ k => XS.aload X3.here hx rfl (hb hby at_21) rfl rfl  k) ?_
  show Goes p e below s _ _ _ (T3.setTop (mkF m 23 #[.val (.int p0), .val (.int p1), .val (.int p2), .val (.int p3), .val (.ref b1), .unset, .unset, .unset, .unset, .unset] [(.ref b1)]))
  refine Goes.go (fun _ k => XS.iconst X3.here hx rfl (hb hby at_23) k) ?_
  show Goes p e below s _ _ _ (T3.setTop (mkF m 24 #[.val (.int p0), .val (.int p1), .val (.int p2), .val (.int p3), .val (.ref b1), .unset, .unset, .unset, .unset, .unset] [(.int (2 : Int32)), (.ref b1)]))
  refine Goes.go (fun _ k => XS.iloadN X3.here hx rfl (hb hby at_24) rfl  k) ?_
  show Goes p e below s _ _ _ (T3.setTop (mkF m 25 #[.val (.int p0), .val (.int p1), .val (.int p2), .val (.int p3), .val (.ref b1), .unset, .unset, .unset, .unset, .unset] [(.int p0), (.int (2 : Int32)), (.ref b1)]))
  refine Goes.go (fun _ k => XS.bipush X3.here hx rfl (hb hby at_25) k) ?_
  show Goes p e below s _ _ _ (T3.setTop (mkF m 27 #[.val (.int p0), .val (.int p1), .val (.int p2), .val (.int p3), .val (.ref b1), .unset, .unset, .unset, .unset, .unset] [(.int (16 : Int32)), (.int p0), (.int (2 : Int32)), (.ref b1)]))
  refine Goes.go (fun _ k => XS.iushr X3.here hx rfl (hb hby at_27) rfl k) ?_
  show Goes p e below s _ _ _ (T3.setTop (mkF m 28 #[.val (.int p0), .val (.int p1), .val (.int p2), .val (.int p3), .val (.ref b1), .unset, .unset, .unset, .unset, .unset] [(.int ((p0.toUInt32 >>> ((16 : Int32) &&& 31).toUInt32).toInt32)), (.int (2 : Int32)), (.ref b1)]))
  refine Goes.go (fun _ k => XS.i2b X3.here hx rfl (hb hby at_28) rfl k) ?_
  show Goes p e below s _ _ _ (T3.setTop (mkF m 29 #[.val (.int p0), .val (.int p1), .val (.int p2), .val (.int p3), .val (.ref b1), .unset, .unset, .unset, .unset, .unset] [(.int (((p0.toUInt32 >>> ((16 : Int32) &&& 31).toUInt32).toInt32).toInt8.toInt32)), (.int (2 : Int32)), (.ref b1)]))
  obtain ⟨T4, h4, X4, e4, W4, A4, st4⟩ := own_stB X3 hx hZ e3 A3 (i := 2) rfl (by decide) (g := (mkF m 29 #[.val (.int p0), .val (.int p1), .val (.int p2), .val (.int p3), .val (.ref b1), .unset, .unset, .unset, .unset, .unset] [(.int (((p0.toUInt32 >>> ((16 : Int32) &&& 31).toUInt32).toInt32).toInt8.toInt32)), (.int (2 : Int32)), (.ref b1)])) rfl rfl (hb hby at_29)
  have N4 := Fr.snoc X4 N3 gb1
  have Z4 := Nat.le_trans Z3 (Keep.of_wr W4).1
  have K4 := Keep.wr K3 W4 (Or.inr sb1)
  refine Goes.go st4 ?_
  show Goes p e below s _ _ _ (T4.setTop (mkF m 30 #[.val (.int p0), .val (.int p1), .val (.int p2), .val (.int p3), .val (.ref b1), .unset, .unset, .unset, .unset, .unset] []))
  refine Goes.go (fun _ k => XS.aload X4.here hx rfl (hb hby at_30) rfl rfl  k) ?_
  show Goes p e below s _ _ _ (T4.setTop (mkF m 32 #[.val (.int p0), .val (.int p1), .val (.int p2), .val (.int p3), .val (.ref b1), .unset, .unset, .unset, .unset, .unset] [(.ref b1)]))
  refine Goes.go (fun _ k => XS.iconst X4.here hx rfl (hb hby at_32) k) ?_
  show Goes p e below s _ _ _ (T4.setTop (mkF m 33 #[.val (.int p0), .val (.int p1), .val (.int p2), .val (.int p3), .val (.ref b1), .unset, .unset, .unset, .unset, .unset] [(.int (3 : Int32)), (.ref b1)]))
  refine Goes.go (fun _ k => XS.iloadN X4.here hx rfl (hb hby at_33) rfl  k) ?_
  show Goes p e below s _ _ _ (T4.setTop (mkF m 34 #[.val (.int p0), .val (.int p1), .val (.int p2), .val (.int p3), .val (.ref b1), .unset, .unset, .unset, .unset, .unset] [(.int p0), (.int (3 : Int32)), (.ref b1)]))
  refine Goes.go (fun _ k => XS.bipush X4.here hx rfl (hb hby at_34) k) ?_
  show Goes p e below s _ _ _ (T4.setTop (mkF m 36 #[.val (.int p0), .val (.int p1), .val (.int p2), .val (.int p3), .val (.ref b1), .unset, .unset, .unset, .unset, .unset] [(.int (24 : Int32)), (.int p0), (.int (3 : Int32)), (.ref b1)]))
  refine Goes.go (fun _ k => XS.iushr X4.here hx rfl (hb hby at_36) rfl k) ?_
  show Goes p e below s _ _ _ (T4.setTop (mkF m 37 #[.val (.int p0), .val (.int p1), .val (.int p2), .val (.int p3), .val (.ref b1), .unset, .unset, .unset, .unset, .unset] [(.int ((p0.toUInt32 >>> ((24 : Int32) &&& 31).toUInt32).toInt32)), (.int (3 : Int32)), (.ref b1)]))
  refine Goes.go (fun _ k => XS.i2b X4.here hx rfl (hb hby at_37) rfl k) ?_
  show Goes p e below s _ _ _ (T4.setTop (mkF m 38 #[.val (.int p0), .val (.int p1), .val (.int p2), .val (.int p3), .val (.ref b1), .unset, .unset, .unset, .unset, .unset] [(.int (((p0.toUInt32 >>> ((24 : Int32) &&& 31).toUInt32).toInt32).toInt8.toInt32)), (.int (3 : Int32)), (.ref b1)]))
  obtain ⟨T5, h5, X5, e5, W5, A5, st5⟩ := own_stB X4 hx hZ e4 A4 (i := 3) rfl (by decide) (g := (mkF m 38 #[.val (.int p0), .val (.int p1), .val (.int p2), .val (.int p3), .val (.ref b1), .unset, .unset, .unset, .unset, .unset] [(.int (((p0.toUInt32 >>> ((24 : Int32) &&& 31).toUInt32).toInt32).toInt8.toInt32)), (.int (3 : Int32)), (.ref b1)])) rfl rfl (hb hby at_38)
  have N5 := Fr.snoc X5 N4 gb1
  have Z5 := Nat.le_trans Z4 (Keep.of_wr W5).1
  have K5 := Keep.wr K4 W5 (Or.inr sb1)
  refine Goes.go st5 ?_
  show Goes p e below s _ _ _ (T5.setTop (mkF m 39 #[.val (.int p0), .val (.int p1), .val (.int p2), .val (.int p3), .val (.ref b1), .unset, .unset, .unset, .unset, .unset] []))
  refine Goes.go (fun _ k => XS.aload X5.here hx rfl (hb hby at_39) rfl rfl  k) ?_
  show Goes p e below s _ _ _ (T5.setTop (mkF m 41 #[.val (.int p0), .val (.int p1), .val (.int p2), .val (.int p3), .val (.ref b1), .unset, .unset, .unset, .unset, .unset] [(.ref b1)]))
  refine Goes.go (fun _ k => XS.iconst X5.here hx rfl (hb hby at_41) k) ?_
  show Goes p e below s _ _ _ (T5.setTop (mkF m 42 #[.val (.int p0), .val (.int p1), .val (.int p2), .val (.int p3), .val (.ref b1), .unset, .unset, .unset, .unset, .unset] [(.int (4 : Int32)), (.ref b1)]))
  refine Goes.go (fun _ k => XS.iloadN X5.here hx rfl (hb hby at_42) rfl  k) ?_
  show Goes p e below s _ _ _ (T5.setTop (mkF m 43 #[.val (.int p0), .val (.int p1), .val (.int p2), .val (.int p3), .val (.ref b1), .unset, .unset, .unset, .unset, .unset] [(.int p1), (.int (4 : Int32)), (.ref b1)]))
  refine Goes.go (fun _ k => XS.i2b X5.here hx rfl (hb hby at_43) rfl k) ?_
  show Goes p e below s _ _ _ (T5.setTop (mkF m 44 #[.val (.int p0), .val (.int p1), .val (.int p2), .val (.int p3), .val (.ref b1), .unset, .unset, .unset, .unset, .unset] [(.int (p1.toInt8.toInt32)), (.int (4 : Int32)), (.ref b1)]))
  obtain ⟨T6, h6, X6, e6, W6, A6, st6⟩ := own_stB X5 hx hZ e5 A5 (i := 4) rfl (by decide) (g := (mkF m 44 #[.val (.int p0), .val (.int p1), .val (.int p2), .val (.int p3), .val (.ref b1), .unset, .unset, .unset, .unset, .unset] [(.int (p1.toInt8.toInt32)), (.int (4 : Int32)), (.ref b1)])) rfl rfl (hb hby at_44)
  have N6 := Fr.snoc X6 N5 gb1
  have Z6 := Nat.le_trans Z5 (Keep.of_wr W6).1
  have K6 := Keep.wr K5 W6 (Or.inr sb1)
  refine Goes.go st6 ?_
  show Goes p e below s _ _ _ (T6.setTop (mkF m 45 #[.val (.int p0), .val (.int p1), .val (.int p2), .val (.int p3), .val (.ref b1), .unset, .unset, .unset, .unset, .unset] []))
  refine Goes.go (fun _ k => XS.aload X6.here hx rfl (hb hby at_45) rfl rfl  k) ?_
  show Goes p e below s _ _ _ (T6.setTop (mkF m 47 #[.val (.int p0), .val (.int p1), .val (.int p2), .val (.int p3), .val (.ref b1), .unset, .unset, .unset, .unset, .unset] [(.ref b1)]))
  refine Goes.go (fun _ k => XS.iconst X6.here hx rfl (hb hby at_47) k) ?_
  show Goes p e below s _ _ _ (T6.setTop (mkF m 48 #[.val (.int p0), .val (.int p1), .val (.int p2), .val (.int p3), .val (.ref b1), .unset, .unset, .unset, .unset, .unset] [(.int (5 : Int32)), (.ref b1)]))
  refine Goes.go (fun _ k => XS.iloadN X6.here hx rfl (hb hby at_48) rfl  k) ?_
  show Goes p e below s _ _ _ (T6.setTop (mkF m 49 #[.val (.int p0), .val (.int p1), .val (.int p2), .val (.int p3), .val (.ref b1), .unset, .unset, .unset, .unset, .unset] [(.int p1), (.int (5 : Int32)), (.ref b1)]))
  refine Goes.go (fun _ k => XS.bipush X6.here hx rfl (hb hby at_49) k) ?_
  show Goes p e below s _ _ _ (T6.setTop (mkF m 51 #[.val (.int p0), .val (.int p1), .val (.int p2), .val (.int p3), .val (.ref b1), .unset, .unset, .unset, .unset, .unset] [(.int (8 : Int32)), (.int p1), (.int (5 : Int32)), (.ref b1)]))
  refine Goes.go (fun _ k => XS.iushr X6.here hx rfl (hb hby at_51) rfl k) ?_
  show Goes p e below s _ _ _ (T6.setTop (mkF m 52 #[.val (.int p0), .val (.int p1), .val (.int p2), .val (.int p3), .val (.ref b1), .unset, .unset, .unset, .unset, .unset] [(.int ((p1.toUInt32 >>> ((8 : Int32) &&& 31).toUInt32).toInt32)), (.int (5 : Int32)), (.ref b1)]))
  refine Goes.go (fun _ k => XS.i2b X6.here hx rfl (hb hby at_52) rfl k) ?_
  show Goes p e below s _ _ _ (T6.setTop (mkF m 53 #[.val (.int p0), .val (.int p1), .val (.int p2), .val (.int p3), .val (.ref b1), .unset, .unset, .unset, .unset, .unset] [(.int (((p1.toUInt32 >>> ((8 : Int32) &&& 31).toUInt32).toInt32).toInt8.toInt32)), (.int (5 : Int32)), (.ref b1)]))
  obtain ⟨T7, h7, X7, e7, W7, A7, st7⟩ := own_stB X6 hx hZ e6 A6 (i := 5) rfl (by decide) (g := (mkF m 53 #[.val (.int p0), .val (.int p1), .val (.int p2), .val (.int p3), .val (.ref b1), .unset, .unset, .unset, .unset, .unset] [(.int (((p1.toUInt32 >>> ((8 : Int32) &&& 31).toUInt32).toInt32).toInt8.toInt32)), (.int (5 : Int32)), (.ref b1)])) rfl rfl (hb hby at_53)
  have N7 := Fr.snoc X7 N6 gb1
  have Z7 := Nat.le_trans Z6 (Keep.of_wr W7).1
  have K7 := Keep.wr K6 W7 (Or.inr sb1)
  refine Goes.go st7 ?_
  show Goes p e below s _ _ _ (T7.setTop (mkF m 54 #[.val (.int p0), .val (.int p1), .val (.int p2), .val (.int p3), .val (.ref b1), .unset, .unset, .unset, .unset, .unset] []))
  refine Goes.go (fun _ k => XS.iloadN X7.here hx rfl (hb hby at_54) rfl  k) ?_
  show Goes p e below s _ _ _ (T7.setTop (mkF m 55 #[.val (.int p0), .val (.int p1), .val (.int p2), .val (.int p3), .val (.ref b1), .unset, .unset, .unset, .unset, .unset] [(.int p2)]))
  refine Goes.go (fun _ k => X7.ldcInt hx hown (mvT hZ (hw _ (List.mem_of_getElem? (i := 1) rfl))) (g := (mkF m 55 #[.val (.int p0), .val (.int p1), .val (.int p2), .val (.int p3), .val (.ref b1), .unset, .unset, .unset, .unset, .unset] [(.int p2)])) rfl (hb hby at_55) _ k) ?_
  show Goes p e below s _ _ _ (T7.setTop (mkF m 57 #[.val (.int p0), .val (.int p1), .val (.int p2), .val (.int p3), .val (.ref b1), .unset, .unset, .unset, .unset, .unset] [(.int (2147483647 : Int32)), (.int p2)]))
  refine Goes.go (fun _ k => XS.iand X7.here hx rfl (hb hby at_57) rfl k) ?_
  show Goes p e below s _ _ _ (T7.setTop (mkF m 58 #[.val (.int p0), .val (.int p1), .val (.int p2), .val (.int p3), .val (.ref b1), .unset, .unset, .unset, .unset, .unset] [(.int (p2 &&& (2147483647 : Int32)))]))
  refine Goes.go (fun _ k => XS.bipush X7.here hx rfl (hb hby at_58) k) ?_
  show Goes p e below s _ _ _ (T7.setTop (mkF m 60 #[.val (.int p0), .val (.int p1), .val (.int p2), .val (.int p3), .val (.ref b1), .unset, .unset, .unset, .unset, .unset] [(.int (7 : Int32)), (.int (p2 &&& (2147483647 : Int32)))]))
  refine Goes.go (fun _ k => own_irem X7.here hx rfl (hb hby at_60) rfl (by decide) k) ?_
  show Goes p e below s _ _ _ (T7.setTop (mkF m 61 #[.val (.int p0), .val (.int p1), .val (.int p2), .val (.int p3), .val (.ref b1), .unset, .unset, .unset, .unset, .unset] [(.int ((p2 &&& (2147483647 : Int32)) % (7 : Int32)))]))
  refine Goes.go (fun _ k => XS.istore X7.here hx rfl (hb hby at_61) rfl (l' := #[.val (.int p0), .val (.int p1), .val (.int p2), .val (.int p3), .val (.ref b1), .val (.int ((p2 &&& (2147483647 : Int32)) % (7 : Int32))), .unset, .unset, .unset, .unset]) rfl k) ?_
  show Goes p e below s _ _ _ (T7.setTop (mkF m 63 #[.val (.int p0), .val (.int p1), .val (.int p2), .val (.int p3), .val (.ref b1), .val (.int ((p2 &&& (2147483647 : Int32)) % (7 : Int32))), .unset, .unset, .unset, .unset] []))
  refine Goes.go (fun _ k => XS.iloadN X7.here hx rfl (hb hby at_63) rfl  k) ?_
  show Goes p e below s _ _ _ (T7.setTop (mkF m 64 #[.val (.int p0), .val (.int p1), .val (.int p2), .val (.int p3), .val (.ref b1), .val (.int ((p2 &&& (2147483647 : Int32)) % (7 : Int32))), .unset, .unset, .unset, .unset] [(.int p3)]))
  refine Goes.go (fun _ k => X7.ldcInt hx hown (mvT hZ (hw _ (List.mem_of_getElem? (i := 1) rfl))) (g := (mkF m 64 #[.val (.int p0), .val (.int p1), .val (.int p2), .val (.int p3), .val (.ref b1), .val (.int ((p2 &&& (2147483647 : Int32)) % (7 : Int32))), .unset, .unset, .unset, .unset] [(.int p3)])) rfl (hb hby at_64) _ k) ?_
  show Goes p e below s _ _ _ (T7.setTop (mkF m 66 #[.val (.int p0), .val (.int p1), .val (.int p2), .val (.int p3), .val (.ref b1), .val (.int ((p2 &&& (2147483647 : Int32)) % (7 : Int32))), .unset, .unset, .unset, .unset] [(.int (2147483647 : Int32)), (.int p3)]))
  refine Goes.go (fun _ k => XS.iand X7.here hx rfl (hb hby at_66) rfl k) ?_
  show Goes p e below s _ _ _ (T7.setTop (mkF m 67 #[.val (.int p0), .val (.int p1), .val (.int p2), .val (.int p3), .val (.ref b1), .val (.int ((p2 &&& (2147483647 : Int32)) % (7 : Int32))), .unset, .unset, .unset, .unset] [(.int (p3 &&& (2147483647 : Int32)))]))
  refine Goes.go (fun _ k => XS.bipush X7.here hx rfl (hb hby at_67) k) ?_
  show Goes p e below s _ _ _ (T7.setTop (mkF m 69 #[.val (.int p0), .val (.int p1), .val (.int p2), .val (.int p3), .val (.ref b1), .val (.int ((p2 &&& (2147483647 : Int32)) % (7 : Int32))), .unset, .unset, .unset, .unset] [(.int (7 : Int32)), (.int (p3 &&& (2147483647 : Int32)))]))
  refine Goes.go (fun _ k => own_irem X7.here hx rfl (hb hby at_69) rfl (by decide) k) ?_
  show Goes p e below s _ _ _ (T7.setTop (mkF m 70 #[.val (.int p0), .val (.int p1), .val (.int p2), .val (.int p3), .val (.ref b1), .val (.int ((p2 &&& (2147483647 : Int32)) % (7 : Int32))), .unset, .unset, .unset, .unset] [(.int ((p3 &&& (2147483647 : Int32)) % (7 : Int32)))]))
  refine Goes.go (fun _ k => XS.istore X7.here hx rfl (hb hby at_70) rfl (l' := #[.val (.int p0), .val (.int p1), .val (.int p2), .val (.int p3), .val (.ref b1), .val (.int ((p2 &&& (2147483647 : Int32)) % (7 : Int32))), .val (.int ((p3 &&& (2147483647 : Int32)) % (7 : Int32))), .unset, .unset, .unset]) rfl k) ?_
  have An8 := A7
  generalize hv_vv : (own_upd (own_upd (own_upd (own_upd (own_upd (own_upd (fun _ => 0) 0 (nar .byte (p0.toInt8.toInt32))) 1 (nar .byte (((p0.toUInt32 >>> ((8 : Int32) &&& 31).toUInt32).toInt32).toInt8.toInt32))) 2 (nar .byte (((p0.toUInt32 >>> ((16 : Int32) &&& 31).toUInt32).toInt32).toInt8.toInt32))) 3 (nar .byte (((p0.toUInt32 >>> ((24 : Int32) &&& 31).toUInt32).toInt32).toInt8.toInt32))) 4 (nar .byte (p1.toInt8.toInt32))) 5 (nar .byte (((p1.toUInt32 >>> ((8 : Int32) &&& 31).toUInt32).toInt32).toInt8.toInt32))) = vv at An8
  obtain ⟨nx, hnx, enx⟩ := own_modN p2 7 (by decide) (by decide)
  obtain ⟨ny, hny, eny⟩ := own_modN p3 7 (by decide) (by decide)
  rw [show ((p2 &&& (2147483647 : Int32)) % (7 : Int32)) = Int32.ofNat nx from enx, show ((p3 &&& (2147483647 : Int32)) % (7 : Int32)) = Int32.ofNat ny from eny]
  show Goes p e below s _ _ _ (T7.setTop (mkF m 72 #[.val (.int p0), .val (.int p1), .val (.int p2), .val (.int p3), .val (.ref b1), .val (.int (Int32.ofNat nx)), .val (.int (Int32.ofNat ny)), .unset, .unset, .unset] []))
  refine Goes.go (fun _ k => XS.iload X7.here hx rfl (hb hby at_72) rfl  k) ?_
  show Goes p e below s _ _ _ (T7.setTop (mkF m 74 #[.val (.int p0), .val (.int p1), .val (.int p2), .val (.int p3), .val (.ref b1), .val (.int (Int32.ofNat nx)), .val (.int (Int32.ofNat ny)), .unset, .unset, .unset] [(.int (Int32.ofNat nx))]))
  refine Goes.go (fun _ k => XS.iload X7.here hx rfl (hb hby at_74) rfl  k) ?_
  show Goes p e below s _ _ _ (T7.setTop (mkF m 76 #[.val (.int p0), .val (.int p1), .val (.int p2), .val (.int p3), .val (.ref b1), .val (.int (Int32.ofNat nx)), .val (.int (Int32.ofNat ny)), .unset, .unset, .unset] [(.int (Int32.ofNat ny)), (.int (Int32.ofNat nx))]))
  obtain ⟨_, _, ⟨T9, L9, k9, n9⟩, -, X9, ⟨Lc9, hQ9, l9, y9, z9⟩, st9⟩ := Jvm.LawKit.callS X7 hx (y := (⟨"java/lang/Math", "min", "(II)I"⟩ : MethodName)) hown (mvT hZ (hw _ (List.mem_of_getElem? (i := 2) rfl))) (mvT hZ (hw _ (List.mem_of_getElem? (i := 3) rfl))) (mvT hZ (hw _ (List.mem_of_getElem? (i := 4) rfl))) (mvT hZ (hw _ (List.mem_of_getElem? (i := 5) rfl))) (by decide) (backOf (W := 0) (rm1 l Z a0 hw [] (Int32.ofNat nx) (Int32.ofNat ny) h7 n0 Z7 ) hZ (hw _ (List.mem_of_getElem? (i := 5) rfl)) (hw _ (List.mem_of_getElem? (i := 4) rfl)) (by decide) (by decide)) (g := (mkF m 76 #[.val (.int p0), .val (.int p1), .val (.int p2), .val (.int p3), .val (.ref b1), .val (.int (Int32.ofNat nx)), .val (.int (Int32.ofNat ny)), .unset, .unset, .unset] [(.int (Int32.ofNat ny)), (.int (Int32.ofNat nx))])) rfl (by rw [hml]; rfl) (argsL := [(.int (Int32.ofNat nx)), (.int (Int32.ofNat ny))]) (rest := []) (lenOf pd_0 rfl) rfl (by show 2 * 0 + _ ≤ _; exact Nat.le_of_eq rfl) (hb hby at_76) (fun _ _ => ⟨rfl, e7, (by decide : 1 + 0 ≤ _), (by decide : 6 + 0 ≤ _)⟩)
  dsimp only [Pt.U, Pt.locs, Pt.cells, Pt.slots] at X9 l9 y9 z9 st9 hQ9
  subst l9 y9 z9
  obtain ⟨rfl, N9q, e9⟩ := hQ9
  have N9 := Fr.app N7 N9q
  refine Goes.go st9 ?_
  show Goes p e below s _ _ _ (T9.setTop (mkF m 79 #[.val (.int p0), .val (.int p1), .val (.int p2), .val (.int p3), .val (.ref b1), .val (.int (Int32.ofNat nx)), .val (.int (Int32.ofNat ny)), .unset, .unset, .unset] [(.int (f1 (Int32.ofNat nx) (Int32.ofNat ny)))]))
  refine Goes.go (fun _ k => XS.istore X9.here hx rfl (hb hby at_79) rfl (l' := #[.val (.int p0), .val (.int p1), .val (.int p2), .val (.int p3), .val (.ref b1), .val (.int (Int32.ofNat nx)), .val (.int (Int32.ofNat ny)), .val (.int (f1 (Int32.ofNat nx) (Int32.ofNat ny))), .unset, .unset]) rfl k) ?_
  show Goes p e below s _ _ _ (T9.setTop (mkF m 81 #[.val (.int p0), .val (.int p1), .val (.int p2), .val (.int p3), .val (.ref b1), .val (.int (Int32.ofNat nx)), .val (.int (Int32.ofNat ny)), .val (.int (f1 (Int32.ofNat nx) (Int32.ofNat ny))), .unset, .unset] []))
  refine Goes.go (fun _ k => XS.iload X9.here hx rfl (hb hby at_81) rfl  k) ?_
  show Goes p e below s _ _ _ (T9.setTop (mkF m 83 #[.val (.int p0), .val (.int p1), .val (.int p2), .val (.int p3), .val (.ref b1), .val (.int (Int32.ofNat nx)), .val (.int (Int32.ofNat ny)), .val (.int (f1 (Int32.ofNat nx) (Int32.ofNat ny))), .unset, .unset] [(.int (Int32.ofNat nx))]))
  refine Goes.go (fun _ k => XS.iload X9.here hx rfl (hb hby at_83) rfl  k) ?_
  show Goes p e below s _ _ _ (T9.setTop (mkF m 85 #[.val (.int p0), .val (.int p1), .val (.int p2), .val (.int p3), .val (.ref b1), .val (.int (Int32.ofNat nx)), .val (.int (Int32.ofNat ny)), .val (.int (f1 (Int32.ofNat nx) (Int32.ofNat ny))), .unset, .unset] [(.int (Int32.ofNat ny)), (.int (Int32.ofNat nx))]))
  obtain ⟨_, _, ⟨T10, L10, k10, n10⟩, -, X10, ⟨Lc10, hQ10, l10, y10, z10⟩, st10⟩ := Jvm.LawKit.callS X9 hx (y := (⟨"java/lang/Math", "max", "(II)I"⟩ : MethodName)) hown (mvT hZ (hw _ (List.mem_of_getElem? (i := 6) rfl))) (mvT hZ (hw _ (List.mem_of_getElem? (i := 7) rfl))) (mvT hZ (hw _ (List.mem_of_getElem? (i := 4) rfl))) (mvT hZ (hw _ (List.mem_of_getElem? (i := 8) rfl))) (by decide) (backOf (W := 0) (rm2 l Z a0 hw [] (Int32.ofNat nx) (Int32.ofNat ny) h7 n0 Z7 ) hZ (hw _ (List.mem_of_getElem? (i := 8) rfl)) (hw _ (List.mem_of_getElem? (i := 4) rfl)) (by decide) (by decide)) (g := (mkF m 85 #[.val (.int p0), .val (.int p1), .val (.int p2), .val (.int p3), .val (.ref b1), .val (.int (Int32.ofNat nx)), .val (.int (Int32.ofNat ny)), .val (.int (f1 (Int32.ofNat nx) (Int32.ofNat ny))), .unset, .unset] [(.int (Int32.ofNat ny)), (.int (Int32.ofNat nx))])) rfl (by rw [hml]; rfl) (argsL := [(.int (Int32.ofNat nx)), (.int (Int32.ofNat ny))]) (rest := []) (lenOf pd_0 rfl) rfl (by show 2 * 0 + _ ≤ _; exact Nat.le_of_eq rfl) (hb hby at_85) (fun _ _ => ⟨rfl, e9, (by decide : 1 + 0 ≤ _), (by decide : 6 + 0 ≤ _)⟩)
  dsimp only [Pt.U, Pt.locs, Pt.cells, Pt.slots] at X10 l10 y10 z10 st10 hQ10
  subst l10 y10 z10
  obtain ⟨rfl, N10q, e10⟩ := hQ10
  have N10 := Fr.app N9 N10q
  refine Goes.go st10 ?_
  show Goes p e below s _ _ _ (T10.setTop (mkF m 88 #[.val (.int p0), .val (.int p1), .val (.int p2), .val (.int p3), .val (.ref b1), .val (.int (Int32.ofNat nx)), .val (.int (Int32.ofNat ny)), .val (.int (f1 (Int32.ofNat nx) (Int32.ofNat ny))), .unset, .unset] [(.int (f2 (Int32.ofNat nx) (Int32.ofNat ny)))]))
  refine Goes.go (fun _ k => XS.istore X10.here hx rfl (hb hby at_88) rfl (l' := #[.val (.int p0), .val (.int p1), .val (.int p2), .val (.int p3), .val (.ref b1), .val (.int (Int32.ofNat nx)), .val (.int (Int32.ofNat ny)), .val (.int (f1 (Int32.ofNat nx) (Int32.ofNat ny))), .val (.int (f2 (Int32.ofNat nx) (Int32.ofNat ny))), .unset]) rfl k) ?_
  obtain ⟨na, nb, hab, hb6, ea, eb⟩ := own_ab hnx hny
  rw [ea, eb]
  show Goes p e below s _ _ _ (T10.setTop (mkF m 90 #[.val (.int p0), .val (.int p1), .val (.int p2), .val (.int p3), .val (.ref b1), .val (.int (Int32.ofNat nx)), .val (.int (Int32.ofNat ny)), .val (.int (Int32.ofNat na)), .val (.int (Int32.ofNat nb)), .unset] []))
  refine Goes.go (fun _ k => XS.aload X10.here hx rfl (hb hby at_90) rfl rfl  k) ?_
  show Goes p e below s _ _ _ (T10.setTop (mkF m 92 #[.val (.int p0), .val (.int p1), .val (.int p2), .val (.int p3), .val (.ref b1), .val (.int (Int32.ofNat nx)), .val (.int (Int32.ofNat ny)), .val (.int (Int32.ofNat na)), .val (.int (Int32.ofNat nb)), .unset] [(.ref b1)]))
  refine Goes.go (fun _ k => XS.iconst X10.here hx rfl (hb hby at_92) k) ?_
  show Goes p e below s _ _ _ (T10.setTop (mkF m 93 #[.val (.int p0), .val (.int p1), .val (.int p2), .val (.int p3), .val (.ref b1), .val (.int (Int32.ofNat nx)), .val (.int (Int32.ofNat ny)), .val (.int (Int32.ofNat na)), .val (.int (Int32.ofNat nb)), .unset] [(.int (0 : Int32)), (.ref b1)]))
  refine Goes.go (fun _ k => XS.iload X10.here hx rfl (hb hby at_93) rfl  k) ?_
  show Goes p e below s _ _ _ (T10.setTop (mkF m 95 #[.val (.int p0), .val (.int p1), .val (.int p2), .val (.int p3), .val (.ref b1), .val (.int (Int32.ofNat nx)), .val (.int (Int32.ofNat ny)), .val (.int (Int32.ofNat na)), .val (.int (Int32.ofNat nb)), .unset] [(.int (Int32.ofNat na)), (.int (0 : Int32)), (.ref b1)]))
  refine Goes.go (fun _ k => XS.iload X10.here hx rfl (hb hby at_95) rfl  k) ?_
  show Goes p e below s _ _ _ (T10.setTop (mkF m 97 #[.val (.int p0), .val (.int p1), .val (.int p2), .val (.int p3), .val (.ref b1), .val (.int (Int32.ofNat nx)), .val (.int (Int32.ofNat ny)), .val (.int (Int32.ofNat na)), .val (.int (Int32.ofNat nb)), .unset] [(.int (Int32.ofNat nb)), (.int (Int32.ofNat na)), (.int (0 : Int32)), (.ref b1)]))
  obtain ⟨_, _, ⟨T11, L11, k11, n11⟩, -, X11, ⟨Lc11, hQ11, l11, y11, z11⟩, st11⟩ := Jvm.LawKit.callS X10 hx (y := (⟨"org/cardprobe/CheckCharacterXorPinLaw", "part", "([BIII)I"⟩ : MethodName)) hown (mvT hZ (hw _ (List.mem_of_getElem? (i := 9) rfl))) (mvT hZ (hw _ (List.mem_of_getElem? (i := 10) rfl))) (mvT hZ (hw _ (List.mem_of_getElem? (i := 11) rfl))) (mvT hZ (hw _ (List.mem_of_getElem? (i := 12) rfl))) (by decide) (backOf (W := 0) (rm3 l Z a0 hw [] b1 (0 : Int32) (Int32.ofNat na) (Int32.ofNat nb) 6 vv 0 h7 n0 Z7 An8 rfl (by decide)) hZ (hw _ (List.mem_of_getElem? (i := 12) rfl)) (hw _ (List.mem_of_getElem? (i := 11) rfl)) (by decide) (by decide)) (g := (mkF m 97 #[.val (.int p0), .val (.int p1), .val (.int p2), .val (.int p3), .val (.ref b1), .val (.int (Int32.ofNat nx)), .val (.int (Int32.ofNat ny)), .val (.int (Int32.ofNat na)), .val (.int (Int32.ofNat nb)), .unset] [(.int (Int32.ofNat nb)), (.int (Int32.ofNat na)), (.int (0 : Int32)), (.ref b1)])) rfl (by rw [hml]; rfl) (argsL := [(.ref b1), (.int (0 : Int32)), (.int (Int32.ofNat na)), (.int (Int32.ofNat nb))]) (rest := []) (lenOf pd_1 rfl) rfl (by show 2 * 0 + _ ≤ _; exact Nat.le_of_eq rfl) (hb hby at_97) (fun _ _ => ⟨rfl, e10, (by decide : 1 + 0 ≤ _), (by decide : 6 + 0 ≤ _)⟩)
  dsimp only [Pt.U, Pt.locs, Pt.cells, Pt.slots] at X11 l11 y11 z11 st11 hQ11
  subst l11 y11 z11
  obtain ⟨rfl, N11q, e11⟩ := hQ11
  have N11 := Fr.app N10 N11q
  refine Goes.go st11 ?_
  show Goes p e below s _ _ _ (T11.setTop (mkF m 100 #[.val (.int p0), .val (.int p1), .val (.int p2), .val (.int p3), .val (.ref b1), .val (.int (Int32.ofNat nx)), .val (.int (Int32.ofNat ny)), .val (.int (Int32.ofNat na)), .val (.int (Int32.ofNat nb)), .unset] [(.int (f3 b1 (0 : Int32) (Int32.ofNat na) (Int32.ofNat nb) 6 vv 0))]))
  refine Goes.go (fun _ k => XS.aload X11.here hx rfl (hb hby at_100) rfl rfl  k) ?_
  show Goes p e below s _ _ _ (T11.setTop (mkF m 102 #[.val (.int p0), .val (.int p1), .val (.int p2), .val (.int p3), .val (.ref b1), .val (.int (Int32.ofNat nx)), .val (.int (Int32.ofNat ny)), .val (.int (Int32.ofNat na)), .val (.int (Int32.ofNat nb)), .unset] [(.ref b1), (.int (f3 b1 (0 : Int32) (Int32.ofNat na) (Int32.ofNat nb) 6 vv 0))]))
  refine Goes.go (fun _ k => XS.iconst X11.here hx rfl (hb hby at_102) k) ?_
  show Goes p e below s _ _ _ (T11.setTop (mkF m 103 #[.val (.int p0), .val (.int p1), .val (.int p2), .val (.int p3), .val (.ref b1), .val (.int (Int32.ofNat nx)), .val (.int (Int32.ofNat ny)), .val (.int (Int32.ofNat na)), .val (.int (Int32.ofNat nb)), .unset] [(.int (1 : Int32)), (.ref b1), (.int (f3 b1 (0 : Int32) (Int32.ofNat na) (Int32.ofNat nb) 6 vv 0))]))
  refine Goes.go (fun _ k => XS.iload X11.here hx rfl (hb hby at_103) rfl  k) ?_
  show Goes p e below s _ _ _ (T11.setTop (mkF m 105 #[.val (.int p0), .val (.int p1), .val (.int p2), .val (.int p3), .val (.ref b1), .val (.int (Int32.ofNat nx)), .val (.int (Int32.ofNat ny)), .val (.int (Int32.ofNat na)), .val (.int (Int32.ofNat nb)), .unset] [(.int (Int32.ofNat na)), (.int (1 : Int32)), (.ref b1), (.int (f3 b1 (0 : Int32) (Int32.ofNat na) (Int32.ofNat nb) 6 vv 0))]))
  refine Goes.go (fun _ k => XS.iload X11.here hx rfl (hb hby at_105) rfl  k) ?_
  show Goes p e below s _ _ _ (T11.setTop (mkF m 107 #[.val (.int p0), .val (.int p1), .val (.int p2), .val (.int p3), .val (.ref b1), .val (.int (Int32.ofNat nx)), .val (.int (Int32.ofNat ny)), .val (.int (Int32.ofNat na)), .val (.int (Int32.ofNat nb)), .unset] [(.int (Int32.ofNat nb)), (.int (Int32.ofNat na)), (.int (1 : Int32)), (.ref b1), (.int (f3 b1 (0 : Int32) (Int32.ofNat na) (Int32.ofNat nb) 6 vv 0))]))
  obtain ⟨_, _, ⟨T12, L12, k12, n12⟩, -, X12, ⟨Lc12, hQ12, l12, y12, z12⟩, st12⟩ := Jvm.LawKit.callS X11 hx (y := (⟨"org/cardprobe/CheckCharacterXorPinLaw", "part", "([BIII)I"⟩ : MethodName)) hown (mvT hZ (hw _ (List.mem_of_getElem? (i := 9) rfl))) (mvT hZ (hw _ (List.mem_of_getElem? (i := 10) rfl))) (mvT hZ (hw _ (List.mem_of_getElem? (i := 11) rfl))) (mvT hZ (hw _ (List.mem_of_getElem? (i := 12) rfl))) (by decide) (backOf (W := 1) (rm3 l Z a0 hw [] b1 (1 : Int32) (Int32.ofNat na) (Int32.ofNat nb) 6 vv 1 h7 n0 Z7 An8 rfl (by decide)) hZ (hw _ (List.mem_of_getElem? (i := 12) rfl)) (hw _ (List.mem_of_getElem? (i := 11) rfl)) (by decide) (by decide)) (g := (mkF m 107 #[.val (.int p0), .val (.int p1), .val (.int p2), .val (.int p3), .val (.ref b1), .val (.int (Int32.ofNat nx)), .val (.int (Int32.ofNat ny)), .val (.int (Int32.ofNat na)), .val (.int (Int32.ofNat nb)), .unset] [(.int (Int32.ofNat nb)), (.int (Int32.ofNat na)), (.int (1 : Int32)), (.ref b1), (.int (f3 b1 (0 : Int32) (Int32.ofNat na) (Int32.ofNat nb) 6 vv 0))])) rfl (by rw [hml]; rfl) (argsL := [(.ref b1), (.int (1 : Int32)), (.int (Int32.ofNat na)), (.int (Int32.ofNat nb))]) (rest := [(.int (f3 b1 (0 : Int32) (Int32.ofNat na) (Int32.ofNat nb) 6 vv 0))]) (lenOf pd_1 rfl) rfl (by show 2 * 0 + _ ≤ _; exact Nat.le_of_eq rfl) (hb hby at_107) (fun _ _ => ⟨rfl, e11, (by decide : 1 + 0 ≤ _), (by decide : 6 + 0 ≤ _)⟩)
  dsimp only [Pt.U, Pt.locs, Pt.cells, Pt.slots] at X12 l12 y12 z12 st12 hQ12
  subst l12 y12 z12
  obtain ⟨rfl, N12q, e12⟩ := hQ12
  have N12 := Fr.app N11 N12q
  refine Goes.go st12 ?_
  show Goes p e below s _ _ _ (T12.setTop (mkF m 110 #[.val (.int p0), .val (.int p1), .val (.int p2), .val (.int p3), .val (.ref b1), .val (.int (Int32.ofNat nx)), .val (.int (Int32.ofNat ny)), .val (.int (Int32.ofNat na)), .val (.int (Int32.ofNat nb)), .unset] [(.int (f3 b1 (1 : Int32) (Int32.ofNat na) (Int32.ofNat nb) 6 vv 1)), (.int (f3 b1 (0 : Int32) (Int32.ofNat na) (Int32.ofNat nb) 6 vv 0))]))
  refine Goes.go (fun _ k => XS.ixor X12.here hx rfl (hb hby at_110) rfl k) ?_
  show Goes p e below s _ _ _ (T12.setTop (mkF m 111 #[.val (.int p0), .val (.int p1), .val (.int p2), .val (.int p3), .val (.ref b1), .val (.int (Int32.ofNat nx)), .val (.int (Int32.ofNat ny)), .val (.int (Int32.ofNat na)), .val (.int (Int32.ofNat nb)), .unset] [(.int ((f3 b1 (0 : Int32) (Int32.ofNat na) (Int32.ofNat nb) 6 vv 0) ^^^ (f3 b1 (1 : Int32) (Int32.ofNat na) (Int32.ofNat nb) 6 vv 1)))]))
  refine Goes.go (fun _ k => XS.aload X12.here hx rfl (hb hby at_111) rfl rfl  k) ?_
  show Goes p e below s _ _ _ (T12.setTop (mkF m 113 #[.val (.int p0), .val (.int p1), .val (.int p2), .val (.int p3), .val (.ref b1), .val (.int (Int32.ofNat nx)), .val (.int (Int32.ofNat ny)), .val (.int (Int32.ofNat na)), .val (.int (Int32.ofNat nb)), .unset] [(.ref b1), (.int ((f3 b1 (0 : Int32) (Int32.ofNat na) (Int32.ofNat nb) 6 vv 0) ^^^ (f3 b1 (1 : Int32) (Int32.ofNat na) (Int32.ofNat nb) 6 vv 1)))]))
  refine Goes.go (fun _ k => XS.iconst X12.here hx rfl (hb hby at_113) k) ?_
  show Goes p e below s _ _ _ (T12.setTop (mkF m 114 #[.val (.int p0), .val (.int p1), .val (.int p2), .val (.int p3), .val (.ref b1), .val (.int (Int32.ofNat nx)), .val (.int (Int32.ofNat ny)), .val (.int (Int32.ofNat na)), .val (.int (Int32.ofNat nb)), .unset] [(.int (2 : Int32)), (.ref b1), (.int ((f3 b1 (0 : Int32) (Int32.ofNat na) (Int32.ofNat nb) 6 vv 0) ^^^ (f3 b1 (1 : Int32) (Int32.ofNat na) (Int32.ofNat nb) 6 vv 1)))]))
  refine Goes.go (fun _ k => XS.iload X12.here hx rfl (hb hby at_114) rfl  k) ?_
  show Goes p e below s _ _ _ (T12.setTop (mkF m 116 #[.val (.int p0), .val (.int p1), .val (.int p2), .val (.int p3), .val (.ref b1), .val (.int (Int32.ofNat nx)), .val (.int (Int32.ofNat ny)), .val (.int (Int32.ofNat na)), .val (.int (Int32.ofNat nb)), .unset] [(.int (Int32.ofNat na)), (.int (2 : Int32)), (.ref b1), (.int ((f3 b1 (0 : Int32) (Int32.ofNat na) (Int32.ofNat nb) 6 vv 0) ^^^ (f3 b1 (1 : Int32) (Int32.ofNat na) (Int32.ofNat nb) 6 vv 1)))]))
  refine Goes.go (fun _ k => XS.iload X12.here hx rfl (hb hby at_116) rfl  k) ?_
  show Goes p e below s _ _ _ (T12.setTop (mkF m 118 #[.val (.int p0), .val (.int p1), .val (.int p2), .val (.int p3), .val (.ref b1), .val (.int (Int32.ofNat nx)), .val (.int (Int32.ofNat ny)), .val (.int (Int32.ofNat na)), .val (.int (Int32.ofNat nb)), .unset] [(.int (Int32.ofNat nb)), (.int (Int32.ofNat na)), (.int (2 : Int32)), (.ref b1), (.int ((f3 b1 (0 : Int32) (Int32.ofNat na) (Int32.ofNat nb) 6 vv 0) ^^^ (f3 b1 (1 : Int32) (Int32.ofNat na) (Int32.ofNat nb) 6 vv 1)))]))
  obtain ⟨_, _, ⟨T13, L13, k13, n13⟩, -, X13, ⟨Lc13, hQ13, l13, y13, z13⟩, st13⟩ := Jvm.LawKit.callS X12 hx (y := (⟨"org/cardprobe/CheckCharacterXorPinLaw", "part", "([BIII)I"⟩ : MethodName)) hown (mvT hZ (hw _ (List.mem_of_getElem? (i := 9) rfl))) (mvT hZ (hw _ (List.mem_of_getElem? (i := 10) rfl))) (mvT hZ (hw _ (List.mem_of_getElem? (i := 11) rfl))) (mvT hZ (hw _ (List.mem_of_getElem? (i := 12) rfl))) (by decide) (backOf (W := 1) (rm3 l Z a0 hw [] b1 (2 : Int32) (Int32.ofNat na) (Int32.ofNat nb) 6 vv 2 h7 n0 Z7 An8 rfl (by decide)) hZ (hw _ (List.mem_of_getElem? (i := 12) rfl)) (hw _ (List.mem_of_getElem? (i := 11) rfl)) (by decide) (by decide)) (g := (mkF m 118 #[.val (.int p0), .val (.int p1), .val (.int p2), .val (.int p3), .val (.ref b1), .val (.int (Int32.ofNat nx)), .val (.int (Int32.ofNat ny)), .val (.int (Int32.ofNat na)), .val (.int (Int32.ofNat nb)), .unset] [(.int (Int32.ofNat nb)), (.int (Int32.ofNat na)), (.int (2 : Int32)), (.ref b1), (.int ((f3 b1 (0 : Int32) (Int32.ofNat na) (Int32.ofNat nb) 6 vv 0) ^^^ (f3 b1 (1 : Int32) (Int32.ofNat na) (Int32.ofNat nb) 6 vv 1)))])) rfl (by rw [hml]; rfl) (argsL := [(.ref b1), (.int (2 : Int32)), (.int (Int32.ofNat na)), (.int (Int32.ofNat nb))]) (rest := [(.int ((f3 b1 (0 : Int32) (Int32.ofNat na) (Int32.ofNat nb) 6 vv 0) ^^^ (f3 b1 (1 : Int32) (Int32.ofNat na) (Int32.ofNat nb) 6 vv 1)))]) (lenOf pd_1 rfl) rfl (by show 2 * 0 + _ ≤ _; exact Nat.le_of_eq rfl) (hb hby at_118) (fun _ _ => ⟨rfl, e12, (by decide : 1 + 0 ≤ _), (by decide : 6 + 0 ≤ _)⟩)
  dsimp only [Pt.U, Pt.locs, Pt.cells, Pt.slots] at X13 l13 y13 z13 st13 hQ13
  subst l13 y13 z13
  obtain ⟨rfl, N13q, e13⟩ := hQ13
  have N13 := Fr.app N12 N13q
  refine Goes.go st13 ?_
  show Goes p e below s _ _ _ (T13.setTop (mkF m 121 #[.val (.int p0), .val (.int p1), .val (.int p2), .val (.int p3), .val (.ref b1), .val (.int (Int32.ofNat nx)), .val (.int (Int32.ofNat ny)), .val (.int (Int32.ofNat na)), .val (.int (Int32.ofNat nb)), .unset] [(.int (f3 b1 (2 : Int32) (Int32.ofNat na) (Int32.ofNat nb) 6 vv 2)), (.int ((f3 b1 (0 : Int32) (Int32.ofNat na) (Int32.ofNat nb) 6 vv 0) ^^^ (f3 b1 (1 : Int32) (Int32.ofNat na) (Int32.ofNat nb) 6 vv 1)))]))
  refine Goes.go (fun _ k => XS.ixor X13.here hx rfl (hb hby at_121) rfl k) ?_
  show Goes p e below s _ _ _ (T13.setTop (mkF m 122 #[.val (.int p0), .val (.int p1), .val (.int p2), .val (.int p3), .val (.ref b1), .val (.int (Int32.ofNat nx)), .val (.int (Int32.ofNat ny)), .val (.int (Int32.ofNat na)), .val (.int (Int32.ofNat nb)), .unset] [(.int (((f3 b1 (0 : Int32) (Int32.ofNat na) (Int32.ofNat nb) 6 vv 0) ^^^ (f3 b1 (1 : Int32) (Int32.ofNat na) (Int32.ofNat nb) 6 vv 1)) ^^^ (f3 b1 (2 : Int32) (Int32.ofNat na) (Int32.ofNat nb) 6 vv 2)))]))
  refine Goes.go (fun _ k => XS.aload X13.here hx rfl (hb hby at_122) rfl rfl  k) ?_
  show Goes p e below s _ _ _ (T13.setTop (mkF m 124 #[.val (.int p0), .val (.int p1), .val (.int p2), .val (.int p3), .val (.ref b1), .val (.int (Int32.ofNat nx)), .val (.int (Int32.ofNat ny)), .val (.int (Int32.ofNat na)), .val (.int (Int32.ofNat nb)), .unset] [(.ref b1), (.int (((f3 b1 (0 : Int32) (Int32.ofNat na) (Int32.ofNat nb) 6 vv 0) ^^^ (f3 b1 (1 : Int32) (Int32.ofNat na) (Int32.ofNat nb) 6 vv 1)) ^^^ (f3 b1 (2 : Int32) (Int32.ofNat na) (Int32.ofNat nb) 6 vv 2)))]))
  refine Goes.go (fun _ k => XS.iconst X13.here hx rfl (hb hby at_124) k) ?_
  show Goes p e below s _ _ _ (T13.setTop (mkF m 125 #[.val (.int p0), .val (.int p1), .val (.int p2), .val (.int p3), .val (.ref b1), .val (.int (Int32.ofNat nx)), .val (.int (Int32.ofNat ny)), .val (.int (Int32.ofNat na)), .val (.int (Int32.ofNat nb)), .unset] [(.int (3 : Int32)), (.ref b1), (.int (((f3 b1 (0 : Int32) (Int32.ofNat na) (Int32.ofNat nb) 6 vv 0) ^^^ (f3 b1 (1 : Int32) (Int32.ofNat na) (Int32.ofNat nb) 6 vv 1)) ^^^ (f3 b1 (2 : Int32) (Int32.ofNat na) (Int32.ofNat nb) 6 vv 2)))]))
  refine Goes.go (fun _ k => XS.iload X13.here hx rfl (hb hby at_125) rfl  k) ?_
  show Goes p e below s _ _ _ (T13.setTop (mkF m 127 #[.val (.int p0), .val (.int p1), .val (.int p2), .val (.int p3), .val (.ref b1), .val (.int (Int32.ofNat nx)), .val (.int (Int32.ofNat ny)), .val (.int (Int32.ofNat na)), .val (.int (Int32.ofNat nb)), .unset] [(.int (Int32.ofNat na)), (.int (3 : Int32)), (.ref b1), (.int (((f3 b1 (0 : Int32) (Int32.ofNat na) (Int32.ofNat nb) 6 vv 0) ^^^ (f3 b1 (1 : Int32) (Int32.ofNat na) (Int32.ofNat nb) 6 vv 1)) ^^^ (f3 b1 (2 : Int32) (Int32.ofNat na) (Int32.ofNat nb) 6 vv 2)))]))
  refine Goes.go (fun _ k => XS.iload X13.here hx rfl (hb hby at_127) rfl  k) ?_
  show Goes p e below s _ _ _ (T13.setTop (mkF m 129 #[.val (.int p0), .val (.int p1), .val (.int p2), .val (.int p3), .val (.ref b1), .val (.int (Int32.ofNat nx)), .val (.int (Int32.ofNat ny)), .val (.int (Int32.ofNat na)), .val (.int (Int32.ofNat nb)), .unset] [(.int (Int32.ofNat nb)), (.int (Int32.ofNat na)), (.int (3 : Int32)), (.ref b1), (.int (((f3 b1 (0 : Int32) (Int32.ofNat na) (Int32.ofNat nb) 6 vv 0) ^^^ (f3 b1 (1 : Int32) (Int32.ofNat na) (Int32.ofNat nb) 6 vv 1)) ^^^ (f3 b1 (2 : Int32) (Int32.ofNat na) (Int32.ofNat nb) 6 vv 2)))]))
  obtain ⟨_, _, ⟨T14, L14, k14, n14⟩, -, X14, ⟨Lc14, hQ14, l14, y14, z14⟩, st14⟩ := Jvm.LawKit.callS X13 hx (y := (⟨"org/cardprobe/CheckCharacterXorPinLaw", "part", "([BIII)I"⟩ : MethodName)) hown (mvT hZ (hw _ (List.mem_of_getElem? (i := 9) rfl))) (mvT hZ (hw _ (List.mem_of_getElem? (i := 10) rfl))) (mvT hZ (hw _ (List.mem_of_getElem? (i := 11) rfl))) (mvT hZ (hw _ (List.mem_of_getElem? (i := 12) rfl))) (by decide) (backOf (W := 1) (rm3 l Z a0 hw [] b1 (3 : Int32) (Int32.ofNat na) (Int32.ofNat nb) 6 vv 3 h7 n0 Z7 An8 rfl (by decide)) hZ (hw _ (List.mem_of_getElem? (i := 12) rfl)) (hw _ (List.mem_of_getElem? (i := 11) rfl)) (by decide) (by decide)) (g := (mkF m 129 #[.val (.int p0), .val (.int p1), .val (.int p2), .val (.int p3), .val (.ref b1), .val (.int (Int32.ofNat nx)), .val (.int (Int32.ofNat ny)), .val (.int (Int32.ofNat na)), .val (.int (Int32.ofNat nb)), .unset] [(.int (Int32.ofNat nb)), (.int (Int32.ofNat na)), (.int (3 : Int32)), (.ref b1), (.int (((f3 b1 (0 : Int32) (Int32.ofNat na) (Int32.ofNat nb) 6 vv 0) ^^^ (f3 b1 (1 : Int32) (Int32.ofNat na) (Int32.ofNat nb) 6 vv 1)) ^^^ (f3 b1 (2 : Int32) (Int32.ofNat na) (Int32.ofNat nb) 6 vv 2)))])) rfl (by rw [hml]; rfl) (argsL := [(.ref b1), (.int (3 : Int32)), (.int (Int32.ofNat na)), (.int (Int32.ofNat nb))]) (rest := [(.int (((f3 b1 (0 : Int32) (Int32.ofNat na) (Int32.ofNat nb) 6 vv 0) ^^^ (f3 b1 (1 : Int32) (Int32.ofNat na) (Int32.ofNat nb) 6 vv 1)) ^^^ (f3 b1 (2 : Int32) (Int32.ofNat na) (Int32.ofNat nb) 6 vv 2)))]) (lenOf pd_1 rfl) rfl (by show 2 * 0 + _ ≤ _; exact Nat.le_of_eq rfl) (hb hby at_129) (fun _ _ => ⟨rfl, e13, (by decide : 1 + 0 ≤ _), (by decide : 6 + 0 ≤ _)⟩)
  dsimp only [Pt.U, Pt.locs, Pt.cells, Pt.slots] at X14 l14 y14 z14 st14 hQ14
  subst l14 y14 z14
  obtain ⟨rfl, N14q, e14⟩ := hQ14
  have N14 := Fr.app N13 N14q
  refine Goes.go st14 ?_
  show Goes p e below s _ _ _ (T14.setTop (mkF m 132 #[.val (.int p0), .val (.int p1), .val (.int p2), .val (.int p3), .val (.ref b1), .val (.int (Int32.ofNat nx)), .val (.int (Int32.ofNat ny)), .val (.int (Int32.ofNat na)), .val (.int (Int32.ofNat nb)), .unset] [(.int (f3 b1 (3 : Int32) (Int32.ofNat na) (Int32.ofNat nb) 6 vv 3)), (.int (((f3 b1 (0 : Int32) (Int32.ofNat na) (Int32.ofNat nb) 6 vv 0) ^^^ (f3 b1 (1 : Int32) (Int32.ofNat na) (Int32.ofNat nb) 6 vv 1)) ^^^ (f3 b1 (2 : Int32) (Int32.ofNat na) (Int32.ofNat nb) 6 vv 2)))]))
  refine Goes.go (fun _ k => XS.ixor X14.here hx rfl (hb hby at_132) rfl k) ?_
  show Goes p e below s _ _ _ (T14.setTop (mkF m 133 #[.val (.int p0), .val (.int p1), .val (.int p2), .val (.int p3), .val (.ref b1), .val (.int (Int32.ofNat nx)), .val (.int (Int32.ofNat ny)), .val (.int (Int32.ofNat na)), .val (.int (Int32.ofNat nb)), .unset] [(.int ((((f3 b1 (0 : Int32) (Int32.ofNat na) (Int32.ofNat nb) 6 vv 0) ^^^ (f3 b1 (1 : Int32) (Int32.ofNat na) (Int32.ofNat nb) 6 vv 1)) ^^^ (f3 b1 (2 : Int32) (Int32.ofNat na) (Int32.ofNat nb) 6 vv 2)) ^^^ (f3 b1 (3 : Int32) (Int32.ofNat na) (Int32.ofNat nb) 6 vv 3)))]))
  refine Goes.go (fun _ k => XS.aload X14.here hx rfl (hb hby at_133) rfl rfl  k) ?_
  show Goes p e below s _ _ _ (T14.setTop (mkF m 135 #[.val (.int p0), .val (.int p1), .val (.int p2), .val (.int p3), .val (.ref b1), .val (.int (Int32.ofNat nx)), .val (.int (Int32.ofNat ny)), .val (.int (Int32.ofNat na)), .val (.int (Int32.ofNat nb)), .unset] [(.ref b1), (.int ((((f3 b1 (0 : Int32) (Int32.ofNat na) (Int32.ofNat nb) 6 vv 0) ^^^ (f3 b1 (1 : Int32) (Int32.ofNat na) (Int32.ofNat nb) 6 vv 1)) ^^^ (f3 b1 (2 : Int32) (Int32.ofNat na) (Int32.ofNat nb) 6 vv 2)) ^^^ (f3 b1 (3 : Int32) (Int32.ofNat na) (Int32.ofNat nb) 6 vv 3)))]))
  refine Goes.go (fun _ k => XS.iconst X14.here hx rfl (hb hby at_135) k) ?_
  show Goes p e below s _ _ _ (T14.setTop (mkF m 136 #[.val (.int p0), .val (.int p1), .val (.int p2), .val (.int p3), .val (.ref b1), .val (.int (Int32.ofNat nx)), .val (.int (Int32.ofNat ny)), .val (.int (Int32.ofNat na)), .val (.int (Int32.ofNat nb)), .unset] [(.int (4 : Int32)), (.ref b1), (.int ((((f3 b1 (0 : Int32) (Int32.ofNat na) (Int32.ofNat nb) 6 vv 0) ^^^ (f3 b1 (1 : Int32) (Int32.ofNat na) (Int32.ofNat nb) 6 vv 1)) ^^^ (f3 b1 (2 : Int32) (Int32.ofNat na) (Int32.ofNat nb) 6 vv 2)) ^^^ (f3 b1 (3 : Int32) (Int32.ofNat na) (Int32.ofNat nb) 6 vv 3)))]))
  refine Goes.go (fun _ k => XS.iload X14.here hx rfl (hb hby at_136) rfl  k) ?_
  show Goes p e below s _ _ _ (T14.setTop (mkF m 138 #[.val (.int p0), .val (.int p1), .val (.int p2), .val (.int p3), .val (.ref b1), .val (.int (Int32.ofNat nx)), .val (.int (Int32.ofNat ny)), .val (.int (Int32.ofNat na)), .val (.int (Int32.ofNat nb)), .unset] [(.int (Int32.ofNat na)), (.int (4 : Int32)), (.ref b1), (.int ((((f3 b1 (0 : Int32) (Int32.ofNat na) (Int32.ofNat nb) 6 vv 0) ^^^ (f3 b1 (1 : Int32) (Int32.ofNat na) (Int32.ofNat nb) 6 vv 1)) ^^^ (f3 b1 (2 : Int32) (Int32.ofNat na) (Int32.ofNat nb) 6 vv 2)) ^^^ (f3 b1 (3 : Int32) (Int32.ofNat na) (Int32.ofNat nb) 6 vv 3)))]))
  refine Goes.go (fun _ k => XS.iload X14.here hx rfl (hb hby at_138) rfl  k) ?_
  show Goes p e below s _ _ _ (T14.setTop (mkF m 140 #[.val (.int p0), .val (.int p1), .val (.int p2), .val (.int p3), .val (.ref b1), .val (.int (Int32.ofNat nx)), .val (.int (Int32.ofNat ny)), .val (.int (Int32.ofNat na)), .val (.int (Int32.ofNat nb)), .unset] [(.int (Int32.ofNat nb)), (.int (Int32.ofNat na)), (.int (4 : Int32)), (.ref b1), (.int ((((f3 b1 (0 : Int32) (Int32.ofNat na) (Int32.ofNat nb) 6 vv 0) ^^^ (f3 b1 (1 : Int32) (Int32.ofNat na) (Int32.ofNat nb) 6 vv 1)) ^^^ (f3 b1 (2 : Int32) (Int32.ofNat na) (Int32.ofNat nb) 6 vv 2)) ^^^ (f3 b1 (3 : Int32) (Int32.ofNat na) (Int32.ofNat nb) 6 vv 3)))]))
  obtain ⟨_, _, ⟨T15, L15, k15, n15⟩, -, X15, ⟨Lc15, hQ15, l15, y15, z15⟩, st15⟩ := Jvm.LawKit.callS X14 hx (y := (⟨"org/cardprobe/CheckCharacterXorPinLaw", "part", "([BIII)I"⟩ : MethodName)) hown (mvT hZ (hw _ (List.mem_of_getElem? (i := 9) rfl))) (mvT hZ (hw _ (List.mem_of_getElem? (i := 10) rfl))) (mvT hZ (hw _ (List.mem_of_getElem? (i := 11) rfl))) (mvT hZ (hw _ (List.mem_of_getElem? (i := 12) rfl))) (by decide) (backOf (W := 1) (rm3 l Z a0 hw [] b1 (4 : Int32) (Int32.ofNat na) (Int32.ofNat nb) 6 vv 4 h7 n0 Z7 An8 rfl (by decide)) hZ (hw _ (List.mem_of_getElem? (i := 12) rfl)) (hw _ (List.mem_of_getElem? (i := 11) rfl)) (by decide) (by decide)) (g := (mkF m 140 #[.val (.int p0), .val (.int p1), .val (.int p2), .val (.int p3), .val (.ref b1), .val (.int (Int32.ofNat nx)), .val (.int (Int32.ofNat ny)), .val (.int (Int32.ofNat na)), .val (.int (Int32.ofNat nb)), .unset] [(.int (Int32.ofNat nb)), (.int (Int32.ofNat na)), (.int (4 : Int32)), (.ref b1), (.int ((((f3 b1 (0 : Int32) (Int32.ofNat na) (Int32.ofNat nb) 6 vv 0) ^^^ (f3 b1 (1 : Int32) (Int32.ofNat na) (Int32.ofNat nb) 6 vv 1)) ^^^ (f3 b1 (2 : Int32) (Int32.ofNat na) (Int32.ofNat nb) 6 vv 2)) ^^^ (f3 b1 (3 : Int32) (Int32.ofNat na) (Int32.ofNat nb) 6 vv 3)))])) rfl (by rw [hml]; rfl) (argsL := [(.ref b1), (.int (4 : Int32)), (.int (Int32.ofNat na)), (.int (Int32.ofNat nb))]) (rest := [(.int ((((f3 b1 (0 : Int32) (Int32.ofNat na) (Int32.ofNat nb) 6 vv 0) ^^^ (f3 b1 (1 : Int32) (Int32.ofNat na) (Int32.ofNat nb) 6 vv 1)) ^^^ (f3 b1 (2 : Int32) (Int32.ofNat na) (Int32.ofNat nb) 6 vv 2)) ^^^ (f3 b1 (3 : Int32) (Int32.ofNat na) (Int32.ofNat nb) 6 vv 3)))]) (lenOf pd_1 rfl) rfl (by show 2 * 0 + _ ≤ _; exact Nat.le_of_eq rfl) (hb hby at_140) (fun _ _ => ⟨rfl, e14, (by decide : 1 + 0 ≤ _), (by decide : 6 + 0 ≤ _)⟩)
  dsimp only [Pt.U, Pt.locs, Pt.cells, Pt.slots] at X15 l15 y15 z15 st15 hQ15
  subst l15 y15 z15
  obtain ⟨rfl, N15q, e15⟩ := hQ15
  have N15 := Fr.app N14 N15q
  refine Goes.go st15 ?_
  show Goes p e below s _ _ _ (T15.setTop (mkF m 143 #[.val (.int p0), .val (.int p1), .val (.int p2), .val (.int p3), .val (.ref b1), .val (.int (Int32.ofNat nx)), .val (.int (Int32.ofNat ny)), .val (.int (Int32.ofNat na)), .val (.int (Int32.ofNat nb)), .unset] [(.int (f3 b1 (4 : Int32) (Int32.ofNat na) (Int32.ofNat nb) 6 vv 4)), (.int ((((f3 b1 (0 : Int32) (Int32.ofNat na) (Int32.ofNat nb) 6 vv 0) ^^^ (f3 b1 (1 : Int32) (Int32.ofNat na) (Int32.ofNat nb) 6 vv 1)) ^^^ (f3 b1 (2 : Int32) (Int32.ofNat na) (Int32.ofNat nb) 6 vv 2)) ^^^ (f3 b1 (3 : Int32) (Int32.ofNat na) (Int32.ofNat nb) 6 vv 3)))]))
  refine Goes.go (fun _ k => XS.ixor X15.here hx rfl (hb hby at_143) rfl k) ?_
  show Goes p e below s _ _ _ (T15.setTop (mkF m 144 #[.val (.int p0), .val (.int p1), .val (.int p2), .val (.int p3), .val (.ref b1), .val (.int (Int32.ofNat nx)), .val (.int (Int32.ofNat ny)), .val (.int (Int32.ofNat na)), .val (.int (Int32.ofNat nb)), .unset] [(.int (((((f3 b1 (0 : Int32) (Int32.ofNat na) (Int32.ofNat nb) 6 vv 0) ^^^ (f3 b1 (1 : Int32) (Int32.ofNat na) (Int32.ofNat nb) 6 vv 1)) ^^^ (f3 b1 (2 : Int32) (Int32.ofNat na) (Int32.ofNat nb) 6 vv 2)) ^^^ (f3 b1 (3 : Int32) (Int32.ofNat na) (Int32.ofNat nb) 6 vv 3)) ^^^ (f3 b1 (4 : Int32) (Int32.ofNat na) (Int32.ofNat nb) 6 vv 4)))]))
  refine Goes.go (fun _ k => XS.aload X15.here hx rfl (hb hby at_144) rfl rfl  k) ?_
  show Goes p e below s _ _ _ (T15.setTop (mkF m 146 #[.val (.int p0), .val (.int p1), .val (.int p2), .val (.int p3), .val (.ref b1), .val (.int (Int32.ofNat nx)), .val (.int (Int32.ofNat ny)), .val (.int (Int32.ofNat na)), .val (.int (Int32.ofNat nb)), .unset] [(.ref b1), (.int (((((f3 b1 (0 : Int32) (Int32.ofNat na) (Int32.ofNat nb) 6 vv 0) ^^^ (f3 b1 (1 : Int32) (Int32.ofNat na) (Int32.ofNat nb) 6 vv 1)) ^^^ (f3 b1 (2 : Int32) (Int32.ofNat na) (Int32.ofNat nb) 6 vv 2)) ^^^ (f3 b1 (3 : Int32) (Int32.ofNat na) (Int32.ofNat nb) 6 vv 3)) ^^^ (f3 b1 (4 : Int32) (Int32.ofNat na) (Int32.ofNat nb) 6 vv 4)))]))
  refine Goes.go (fun _ k => XS.iconst X15.here hx rfl (hb hby at_146) k) ?_
  show Goes p e below s _ _ _ (T15.setTop (mkF m 147 #[.val (.int p0), .val (.int p1), .val (.int p2), .val (.int p3), .val (.ref b1), .val (.int (Int32.ofNat nx)), .val (.int (Int32.ofNat ny)), .val (.int (Int32.ofNat na)), .val (.int (Int32.ofNat nb)), .unset] [(.int (5 : Int32)), (.ref b1), (.int (((((f3 b1 (0 : Int32) (Int32.ofNat na) (Int32.ofNat nb) 6 vv 0) ^^^ (f3 b1 (1 : Int32) (Int32.ofNat na) (Int32.ofNat nb) 6 vv 1)) ^^^ (f3 b1 (2 : Int32) (Int32.ofNat na) (Int32.ofNat nb) 6 vv 2)) ^^^ (f3 b1 (3 : Int32) (Int32.ofNat na) (Int32.ofNat nb) 6 vv 3)) ^^^ (f3 b1 (4 : Int32) (Int32.ofNat na) (Int32.ofNat nb) 6 vv 4)))]))
  refine Goes.go (fun _ k => XS.iload X15.here hx rfl (hb hby at_147) rfl  k) ?_
  show Goes p e below s _ _ _ (T15.setTop (mkF m 149 #[.val (.int p0), .val (.int p1), .val (.int p2), .val (.int p3), .val (.ref b1), .val (.int (Int32.ofNat nx)), .val (.int (Int32.ofNat ny)), .val (.int (Int32.ofNat na)), .val (.int (Int32.ofNat nb)), .unset] [(.int (Int32.ofNat na)), (.int (5 : Int32)), (.ref b1), (.int (((((f3 b1 (0 : Int32) (Int32.ofNat na) (Int32.ofNat nb) 6 vv 0) ^^^ (f3 b1 (1 : Int32) (Int32.ofNat na) (Int32.ofNat nb) 6 vv 1)) ^^^ (f3 b1 (2 : Int32) (Int32.ofNat na) (Int32.ofNat nb) 6 vv 2)) ^^^ (f3 b1 (3 : Int32) (Int32.ofNat na) (Int32.ofNat nb) 6 vv 3)) ^^^ (f3 b1 (4 : Int32) (Int32.ofNat na) (Int32.ofNat nb) 6 vv 4)))]))
  refine Goes.go (fun _ k => XS.iload X15.here hx rfl (hb hby at_149) rfl  k) ?_
  show Goes p e below s _ _ _ (T15.setTop (mkF m 151 #[.val (.int p0), .val (.int p1), .val (.int p2), .val (.int p3), .val (.ref b1), .val (.int (Int32.ofNat nx)), .val (.int (Int32.ofNat ny)), .val (.int (Int32.ofNat na)), .val (.int (Int32.ofNat nb)), .unset] [(.int (Int32.ofNat nb)), (.int (Int32.ofNat na)), (.int (5 : Int32)), (.ref b1), (.int (((((f3 b1 (0 : Int32) (Int32.ofNat na) (Int32.ofNat nb) 6 vv 0) ^^^ (f3 b1 (1 : Int32) (Int32.ofNat na) (Int32.ofNat nb) 6 vv 1)) ^^^ (f3 b1 (2 : Int32) (Int32.ofNat na) (Int32.ofNat nb) 6 vv 2)) ^^^ (f3 b1 (3 : Int32) (Int32.ofNat na) (Int32.ofNat nb) 6 vv 3)) ^^^ (f3 b1 (4 : Int32) (Int32.ofNat na) (Int32.ofNat nb) 6 vv 4)))]))
  obtain ⟨_, _, ⟨T16, L16, k16, n16⟩, -, X16, ⟨Lc16, hQ16, l16, y16, z16⟩, st16⟩ := Jvm.LawKit.callS X15 hx (y := (⟨"org/cardprobe/CheckCharacterXorPinLaw", "part", "([BIII)I"⟩ : MethodName)) hown (mvT hZ (hw _ (List.mem_of_getElem? (i := 9) rfl))) (mvT hZ (hw _ (List.mem_of_getElem? (i := 10) rfl))) (mvT hZ (hw _ (List.mem_of_getElem? (i := 11) rfl))) (mvT hZ (hw _ (List.mem_of_getElem? (i := 12) rfl))) (by decide) (backOf (W := 1) (rm3 l Z a0 hw [] b1 (5 : Int32) (Int32.ofNat na) (Int32.ofNat nb) 6 vv 5 h7 n0 Z7 An8 rfl (by decide)) hZ (hw _ (List.mem_of_getElem? (i := 12) rfl)) (hw _ (List.mem_of_getElem? (i := 11) rfl)) (by decide) (by decide)) (g := (mkF m 151 #[.val (.int p0), .val (.int p1), .val (.int p2), .val (.int p3), .val (.ref b1), .val (.int (Int32.ofNat nx)), .val (.int (Int32.ofNat ny)), .val (.int (Int32.ofNat na)), .val (.int (Int32.ofNat nb)), .unset] [(.int (Int32.ofNat nb)), (.int (Int32.ofNat na)), (.int (5 : Int32)), (.ref b1), (.int (((((f3 b1 (0 : Int32) (Int32.ofNat na) (Int32.ofNat nb) 6 vv 0) ^^^ (f3 b1 (1 : Int32) (Int32.ofNat na) (Int32.ofNat nb) 6 vv 1)) ^^^ (f3 b1 (2 : Int32) (Int32.ofNat na) (Int32.ofNat nb) 6 vv 2)) ^^^ (f3 b1 (3 : Int32) (Int32.ofNat na) (Int32.ofNat nb) 6 vv 3)) ^^^ (f3 b1 (4 : Int32) (Int32.ofNat na) (Int32.ofNat nb) 6 vv 4)))])) rfl (by rw [hml]; rfl) (argsL := [(.ref b1), (.int (5 : Int32)), (.int (Int32.ofNat na)), (.int (Int32.ofNat nb))]) (rest := [(.int (((((f3 b1 (0 : Int32) (Int32.ofNat na) (Int32.ofNat nb) 6 vv 0) ^^^ (f3 b1 (1 : Int32) (Int32.ofNat na) (Int32.ofNat nb) 6 vv 1)) ^^^ (f3 b1 (2 : Int32) (Int32.ofNat na) (Int32.ofNat nb) 6 vv 2)) ^^^ (f3 b1 (3 : Int32) (Int32.ofNat na) (Int32.ofNat nb) 6 vv 3)) ^^^ (f3 b1 (4 : Int32) (Int32.ofNat na) (Int32.ofNat nb) 6 vv 4)))]) (lenOf pd_1 rfl) rfl (by show 2 * 0 + _ ≤ _; exact Nat.le_of_eq rfl) (hb hby at_151) (fun _ _ => ⟨rfl, e15, (by decide : 1 + 0 ≤ _), (by decide : 6 + 0 ≤ _)⟩)
  dsimp only [Pt.U, Pt.locs, Pt.cells, Pt.slots] at X16 l16 y16 z16 st16 hQ16
  subst l16 y16 z16
  obtain ⟨rfl, N16q, e16⟩ := hQ16
  have N16 := Fr.app N15 N16q
  refine Goes.go st16 ?_
  show Goes p e below s _ _ _ (T16.setTop (mkF m 154 #[.val (.int p0), .val (.int p1), .val (.int p2), .val (.int p3), .val (.ref b1), .val (.int (Int32.ofNat nx)), .val (.int (Int32.ofNat ny)), .val (.int (Int32.ofNat na)), .val (.int (Int32.ofNat nb)), .unset] [(.int (f3 b1 (5 : Int32) (Int32.ofNat na) (Int32.ofNat nb) 6 vv 5)), (.int (((((f3 b1 (0 : Int32) (Int32.ofNat na) (Int32.ofNat nb) 6 vv 0) ^^^ (f3 b1 (1 : Int32) (Int32.ofNat na) (Int32.ofNat nb) 6 vv 1)) ^^^ (f3 b1 (2 : Int32) (Int32.ofNat na) (Int32.ofNat nb) 6 vv 2)) ^^^ (f3 b1 (3 : Int32) (Int32.ofNat na) (Int32.ofNat nb) 6 vv 3)) ^^^ (f3 b1 (4 : Int32) (Int32.ofNat na) (Int32.ofNat nb) 6 vv 4)))]))
  refine Goes.go (fun _ k => XS.ixor X16.here hx rfl (hb hby at_154) rfl k) ?_
  show Goes p e below s _ _ _ (T16.setTop (mkF m 155 #[.val (.int p0), .val (.int p1), .val (.int p2), .val (.int p3), .val (.ref b1), .val (.int (Int32.ofNat nx)), .val (.int (Int32.ofNat ny)), .val (.int (Int32.ofNat na)), .val (.int (Int32.ofNat nb)), .unset] [(.int ((((((f3 b1 (0 : Int32) (Int32.ofNat na) (Int32.ofNat nb) 6 vv 0) ^^^ (f3 b1 (1 : Int32) (Int32.ofNat na) (Int32.ofNat nb) 6 vv 1)) ^^^ (f3 b1 (2 : Int32) (Int32.ofNat na) (Int32.ofNat nb) 6 vv 2)) ^^^ (f3 b1 (3 : Int32) (Int32.ofNat na) (Int32.ofNat nb) 6 vv 3)) ^^^ (f3 b1 (4 : Int32) (Int32.ofNat na) (Int32.ofNat nb) 6 vv 4)) ^^^ (f3 b1 (5 : Int32) (Int32.ofNat na) (Int32.ofNat nb) 6 vv 5)))]))
  refine Goes.go (fun _ k => XS.istore X16.here hx rfl (hb hby at_155) rfl (l' := #[.val (.int p0), .val (.int p1), .val (.int p2), .val (.int p3), .val (.ref b1), .val (.int (Int32.ofNat nx)), .val (.int (Int32.ofNat ny)), .val (.int (Int32.ofNat na)), .val (.int (Int32.ofNat nb)), .val (.int ((((((f3 b1 (0 : Int32) (Int32.ofNat na) (Int32.ofNat nb) 6 vv 0) ^^^ (f3 b1 (1 : Int32) (Int32.ofNat na) (Int32.ofNat nb) 6 vv 1)) ^^^ (f3 b1 (2 : Int32) (Int32.ofNat na) (Int32.ofNat nb) 6 vv 2)) ^^^ (f3 b1 (3 : Int32) (Int32.ofNat na) (Int32.ofNat nb) 6 vv 3)) ^^^ (f3 b1 (4 : Int32) (Int32.ofNat na) (Int32.ofNat nb) 6 vv 4)) ^^^ (f3 b1 (5 : Int32) (Int32.ofNat na) (Int32.ofNat nb) 6 vv 5)))]) rfl k) ?_
  show Goes p e below s _ _ _ (T16.setTop (mkF m 157 #[.val (.int p0), .val (.int p1), .val (.int p2), .val (.int p3), .val (.ref b1), .val (.int (Int32.ofNat nx)), .val (.int (Int32.ofNat ny)), .val (.int (Int32.ofNat na)), .val (.int (Int32.ofNat nb)), .val (.int ((((((f3 b1 (0 : Int32) (Int32.ofNat na) (Int32.ofNat nb) 6 vv 0) ^^^ (f3 b1 (1 : Int32) (Int32.ofNat na) (Int32.ofNat nb) 6 vv 1)) ^^^ (f3 b1 (2 : Int32) (Int32.ofNat na) (Int32.ofNat nb) 6 vv 2)) ^^^ (f3 b1 (3 : Int32) (Int32.ofNat na) (Int32.ofNat nb) 6 vv 3)) ^^^ (f3 b1 (4 : Int32) (Int32.ofNat na) (Int32.ofNat nb) 6 vv 4)) ^^^ (f3 b1 (5 : Int32) (Int32.ofNat na) (Int32.ofNat nb) 6 vv 5)))] []))
  refine Goes.go (fun _ k => XS.aload X16.here hx rfl (hb hby at_157) rfl rfl  k) ?_
  show Goes p e below s _ _ _ (T16.setTop (mkF m 159 #[.val (.int p0), .val (.int p1), .val (.int p2), .val (.int p3), .val (.ref b1), .val (.int (Int32.ofNat nx)), .val (.int (Int32.ofNat ny)), .val (.int (Int32.ofNat na)), .val (.int (Int32.ofNat nb)), .val (.int ((((((f3 b1 (0 : Int32) (Int32.ofNat na) (Int32.ofNat nb) 6 vv 0) ^^^ (f3 b1 (1 : Int32) (Int32.ofNat na) (Int32.ofNat nb) 6 vv 1)) ^^^ (f3 b1 (2 : Int32) (Int32.ofNat na) (Int32.ofNat nb) 6 vv 2)) ^^^ (f3 b1 (3 : Int32) (Int32.ofNat na) (Int32.ofNat nb) 6 vv 3)) ^^^ (f3 b1 (4 : Int32) (Int32.ofNat na) (Int32.ofNat nb) 6 vv 4)) ^^^ (f3 b1 (5 : Int32) (Int32.ofNat na) (Int32.ofNat nb) 6 vv 5)))] [(.ref b1)]))
  refine Goes.go (fun _ k => XS.iload X16.here hx rfl (hb hby at_159) rfl  k) ?_
  show Goes p e below s _ _ _ (T16.setTop (mkF m 161 #[.val (.int p0), .val (.int p1), .val (.int p2), .val (.int p3), .val (.ref b1), .val (.int (Int32.ofNat nx)), .val (.int (Int32.ofNat ny)), .val (.int (Int32.ofNat na)), .val (.int (Int32.ofNat nb)), .val (.int ((((((f3 b1 (0 : Int32) (Int32.ofNat na) (Int32.ofNat nb) 6 vv 0) ^^^ (f3 b1 (1 : Int32) (Int32.ofNat na) (Int32.ofNat nb) 6 vv 1)) ^^^ (f3 b1 (2 : Int32) (Int32.ofNat na) (Int32.ofNat nb) 6 vv 2)) ^^^ (f3 b1 (3 : Int32) (Int32.ofNat na) (Int32.ofNat nb) 6 vv 3)) ^^^ (f3 b1 (4 : Int32) (Int32.ofNat na) (Int32.ofNat nb) 6 vv 4)) ^^^ (f3 b1 (5 : Int32) (Int32.ofNat na) (Int32.ofNat nb) 6 vv 5)))] [(.int (Int32.ofNat na)), (.ref b1)]))
  refine Goes.go (fun _ k => XS.iload X16.here hx rfl (hb hby at_161) rfl  k) ?_
  show Goes p e below s _ _ _ (T16.setTop (mkF m 163 #[.val (.int p0), .val (.int p1), .val (.int p2), .val (.int p3), .val (.ref b1), .val (.int (Int32.ofNat nx)), .val (.int (Int32.ofNat ny)), .val (.int (Int32.ofNat na)), .val (.int (Int32.ofNat nb)), .val (.int ((((((f3 b1 (0 : Int32) (Int32.ofNat na) (Int32.ofNat nb) 6 vv 0) ^^^ (f3 b1 (1 : Int32) (Int32.ofNat na) (Int32.ofNat nb) 6 vv 1)) ^^^ (f3 b1 (2 : Int32) (Int32.ofNat na) (Int32.ofNat nb) 6 vv 2)) ^^^ (f3 b1 (3 : Int32) (Int32.ofNat na) (Int32.ofNat nb) 6 vv 3)) ^^^ (f3 b1 (4 : Int32) (Int32.ofNat na) (Int32.ofNat nb) 6 vv 4)) ^^^ (f3 b1 (5 : Int32) (Int32.ofNat na) (Int32.ofNat nb) 6 vv 5)))] [(.int (Int32.ofNat nb)), (.int (Int32.ofNat na)), (.ref b1)]))
  obtain ⟨_, _, ⟨T17, L17, k17, n17⟩, -, X17, ⟨Lc17, hQ17, l17, y17, z17⟩, st17⟩ := Jvm.LawKit.callS X16 hx (y := (⟨"org/cardprobe/CheckCharacter", "xor", "([BII)I"⟩ : MethodName)) hown (mvT hZ (hw _ (List.mem_of_getElem? (i := 13) rfl))) (mvT hZ (hw _ (List.mem_of_getElem? (i := 14) rfl))) (mvT hZ (hw _ (List.mem_of_getElem? (i := 15) rfl))) (mvT hZ (hw _ (List.mem_of_getElem? (i := 16) rfl))) (by decide) (backOf (W := 0) (rm4 l Z a0 hw [] b1 6 vv na nb h7 n0 Z7 An8 hab (show nb ≤ 6 by omega)) hZ (hw _ (List.mem_of_getElem? (i := 16) rfl)) (hw _ (List.mem_of_getElem? (i := 15) rfl)) (by decide) (by decide)) (g := (mkF m 163 #[.val (.int p0), .val (.int p1), .val (.int p2), .val (.int p3), .val (.ref b1), .val (.int (Int32.ofNat nx)), .val (.int (Int32.ofNat ny)), .val (.int (Int32.ofNat na)), .val (.int (Int32.ofNat nb)), .val (.int ((((((f3 b1 (0 : Int32) (Int32.ofNat na) (Int32.ofNat nb) 6 vv 0) ^^^ (f3 b1 (1 : Int32) (Int32.ofNat na) (Int32.ofNat nb) 6 vv 1)) ^^^ (f3 b1 (2 : Int32) (Int32.ofNat na) (Int32.ofNat nb) 6 vv 2)) ^^^ (f3 b1 (3 : Int32) (Int32.ofNat na) (Int32.ofNat nb) 6 vv 3)) ^^^ (f3 b1 (4 : Int32) (Int32.ofNat na) (Int32.ofNat nb) 6 vv 4)) ^^^ (f3 b1 (5 : Int32) (Int32.ofNat na) (Int32.ofNat nb) 6 vv 5)))] [(.int (Int32.ofNat nb)), (.int (Int32.ofNat na)), (.ref b1)])) rfl (by rw [hml]; rfl) (argsL := [(.ref b1), (.int (Int32.ofNat na)), (.int (Int32.ofNat nb))]) (rest := []) (lenOf pd_2 rfl) rfl (by show 2 * 0 + _ ≤ _; exact Nat.le_of_eq rfl) (hb hby at_163) (fun _ _ => ⟨rfl, e16, (by decide : 1 + 0 ≤ _), (by decide : 6 + 0 ≤ _)⟩)
  dsimp only [Pt.U, Pt.locs, Pt.cells, Pt.slots] at X17 l17 y17 z17 st17 hQ17
  subst l17 y17 z17
  obtain ⟨rfl, N17q, e17⟩ := hQ17
  have N17 := Fr.app N16 N17q
  refine Goes.go st17 ?_
  show Goes p e below s _ _ _ (T17.setTop (mkF m 166 #[.val (.int p0), .val (.int p1), .val (.int p2), .val (.int p3), .val (.ref b1), .val (.int (Int32.ofNat nx)), .val (.int (Int32.ofNat ny)), .val (.int (Int32.ofNat na)), .val (.int (Int32.ofNat nb)), .val (.int ((((((f3 b1 (0 : Int32) (Int32.ofNat na) (Int32.ofNat nb) 6 vv 0) ^^^ (f3 b1 (1 : Int32) (Int32.ofNat na) (Int32.ofNat nb) 6 vv 1)) ^^^ (f3 b1 (2 : Int32) (Int32.ofNat na) (Int32.ofNat nb) 6 vv 2)) ^^^ (f3 b1 (3 : Int32) (Int32.ofNat na) (Int32.ofNat nb) 6 vv 3)) ^^^ (f3 b1 (4 : Int32) (Int32.ofNat na) (Int32.ofNat nb) 6 vv 4)) ^^^ (f3 b1 (5 : Int32) (Int32.ofNat na) (Int32.ofNat nb) 6 vv 5)))] [(.int (own_x vv (nb - na) na 0))]))
  refine Goes.go (fun _ k => XS.iload X17.here hx rfl (hb hby at_166) rfl  k) ?_
  show Goes p e below s _ _ _ (T17.setTop (mkF m 168 #[.val (.int p0), .val (.int p1), .val (.int p2), .val (.int p3), .val (.ref b1), .val (.int (Int32.ofNat nx)), .val (.int (Int32.ofNat ny)), .val (.int (Int32.ofNat na)), .val (.int (Int32.ofNat nb)), .val (.int ((((((f3 b1 (0 : Int32) (Int32.ofNat na) (Int32.ofNat nb) 6 vv 0) ^^^ (f3 b1 (1 : Int32) (Int32.ofNat na) (Int32.ofNat nb) 6 vv 1)) ^^^ (f3 b1 (2 : Int32) (Int32.ofNat na) (Int32.ofNat nb) 6 vv 2)) ^^^ (f3 b1 (3 : Int32) (Int32.ofNat na) (Int32.ofNat nb) 6 vv 3)) ^^^ (f3 b1 (4 : Int32) (Int32.ofNat na) (Int32.ofNat nb) 6 vv 4)) ^^^ (f3 b1 (5 : Int32) (Int32.ofNat na) (Int32.ofNat nb) 6 vv 5)))] [(.int ((((((f3 b1 (0 : Int32) (Int32.ofNat na) (Int32.ofNat nb) 6 vv 0) ^^^ (f3 b1 (1 : Int32) (Int32.ofNat na) (Int32.ofNat nb) 6 vv 1)) ^^^ (f3 b1 (2 : Int32) (Int32.ofNat na) (Int32.ofNat nb) 6 vv 2)) ^^^ (f3 b1 (3 : Int32) (Int32.ofNat na) (Int32.ofNat nb) 6 vv 3)) ^^^ (f3 b1 (4 : Int32) (Int32.ofNat na) (Int32.ofNat nb) 6 vv 4)) ^^^ (f3 b1 (5 : Int32) (Int32.ofNat na) (Int32.ofNat nb) 6 vv 5))), (.int (own_x vv (nb - na) na 0))]))
  have hc168_18 : (own_x vv (nb - na) na 0) = ((((((f3 b1 (0 : Int32) (Int32.ofNat na) (Int32.ofNat nb) 6 vv 0) ^^^ (f3 b1 (1 : Int32) (Int32.ofNat na) (Int32.ofNat nb) 6 vv 1)) ^^^ (f3 b1 (2 : Int32) (Int32.ofNat na) (Int32.ofNat nb) 6 vv 2)) ^^^ (f3 b1 (3 : Int32) (Int32.ofNat na) (Int32.ofNat nb) 6 vv 3)) ^^^ (f3 b1 (4 : Int32) (Int32.ofNat na) (Int32.ofNat nb) 6 vv 4)) ^^^ (f3 b1 (5 : Int32) (Int32.ofNat na) (Int32.ofNat nb) 6 vv 5)) := own_law _ _ na nb hab hb6
  refine Goes.go (fun _ k => XS.icmpNo X17.here hx rfl (hb hby at_168) rfl (teq hc168_18).2 k) ?_
  show Goes p e below s _ _ _ (T17.setTop (mkF m 171 #[.val (.int p0), .val (.int p1), .val (.int p2), .val (.int p3), .val (.ref b1), .val (.int (Int32.ofNat nx)), .val (.int (Int32.ofNat ny)), .val (.int (Int32.ofNat na)), .val (.int (Int32.ofNat nb)), .val (.int ((((((f3 b1 (0 : Int32) (Int32.ofNat na) (Int32.ofNat nb) 6 vv 0) ^^^ (f3 b1 (1 : Int32) (Int32.ofNat na) (Int32.ofNat nb) 6 vv 1)) ^^^ (f3 b1 (2 : Int32) (Int32.ofNat na) (Int32.ofNat nb) 6 vv 2)) ^^^ (f3 b1 (3 : Int32) (Int32.ofNat na) (Int32.ofNat nb) 6 vv 3)) ^^^ (f3 b1 (4 : Int32) (Int32.ofNat na) (Int32.ofNat nb) 6 vv 4)) ^^^ (f3 b1 (5 : Int32) (Int32.ofNat na) (Int32.ofNat nb) 6 vv 5)))] []))
  refine Goes.go (fun _ k => XS.iconst X17.here hx rfl (hb hby at_171) k) ?_
  show Goes p e below s _ _ _ (T17.setTop (mkF m 172 #[.val (.int p0), .val (.int p1), .val (.int p2), .val (.int p3), .val (.ref b1), .val (.int (Int32.ofNat nx)), .val (.int (Int32.ofNat ny)), .val (.int (Int32.ofNat na)), .val (.int (Int32.ofNat nb)), .val (.int ((((((f3 b1 (0 : Int32) (Int32.ofNat na) (Int32.ofNat nb) 6 vv 0) ^^^ (f3 b1 (1 : Int32) (Int32.ofNat na) (Int32.ofNat nb) 6 vv 1)) ^^^ (f3 b1 (2 : Int32) (Int32.ofNat na) (Int32.ofNat nb) 6 vv 2)) ^^^ (f3 b1 (3 : Int32) (Int32.ofNat na) (Int32.ofNat nb) 6 vv 3)) ^^^ (f3 b1 (4 : Int32) (Int32.ofNat na) (Int32.ofNat nb) 6 vv 4)) ^^^ (f3 b1 (5 : Int32) (Int32.ofNat na) (Int32.ofNat nb) 6 vv 5)))] [(.int (1 : Int32))]))
  refine Goes.go (fun _ k => XS.goto X17.here hx rfl (pc0 := 172) (pc' := 176) rfl (hb hby at_172) (by decide) (by decide) k) ?_
  show Goes p e below s _ _ _ (T17.setTop (mkF m 176 #[.val (.int p0), .val (.int p1), .val (.int p2), .val (.int p3), .val (.ref b1), .val (.int (Int32.ofNat nx)), .val (.int (Int32.ofNat ny)), .val (.int (Int32.ofNat na)), .val (.int (Int32.ofNat nb)), .val (.int ((((((f3 b1 (0 : Int32) (Int32.ofNat na) (Int32.ofNat nb) 6 vv 0) ^^^ (f3 b1 (1 : Int32) (Int32.ofNat na) (Int32.ofNat nb) 6 vv 1)) ^^^ (f3 b1 (2 : Int32) (Int32.ofNat na) (Int32.ofNat nb) 6 vv 2)) ^^^ (f3 b1 (3 : Int32) (Int32.ofNat na) (Int32.ofNat nb) 6 vv 3)) ^^^ (f3 b1 (4 : Int32) (Int32.ofNat na) (Int32.ofNat nb) 6 vv 4)) ^^^ (f3 b1 (5 : Int32) (Int32.ofNat na) (Int32.ofNat nb) 6 vv 5)))] [(.int (1 : Int32))]))
  refine Goes.retN .boolean X17 hx hlk Bd.returns (by simp) (hb hby at_176) ?_ (by decide) (by decide)
  exact ⟨rfl, N17⟩
set_option maxRecDepth 65536 in
set_option maxHeartbeats 40000000 in
theorem comes_1 {Post : Tables → Env → Array Value → State → Outcome → State → Prop} (hpost : ∀ tb e args s v u, (limb_1_1.after args s (.returned v) u = true ∧ limb_1_2.after args s (.returned v) u = true ∧ True) → FrameEnd s (.returned v) u (Jvm.fieldLocs frame_1_writes args s ++ Jvm.arrayLocs frame_1_arrays args s ++ Jvm.staticLocs frame_1_statics s) 16 128 → Post tb e args s (.returned v) u) :
    ArmFor flags0 classFile x code maxLocals ret World_1 tables_1 room_1 Calls_1 rest_1 Pre_1 Post := by
  intro l hfl _ _ p e ha hc hk s m args below hf hA hF happ hP
  obtain ⟨hcalls, hrest, hpre⟩ := hP
  obtain ⟨-, -, -, hnamed, -, -, -, hat⟩ := (Spec.applies_iff hf).mp happ
  obtain ⟨hg, hn⟩ := and_e (Cond.before_iff.mp (show (Jvm.Cond.and given_1 narrow_1).before args s = true from hpre))
  obtain ⟨gc, gr0⟩ := and_e hg
  obtain ⟨w0, w1, w2, w3, rfl⟩ : ∃ w0 w1 w2 w3 : Value, args = #[w0, w1, w2, w3] := by
    have hs : args.size = 4 := by simpa [Cond.value, given_1] using gc
    obtain ⟨L⟩ := args
    match L, hs with
    | [w0, w1, w2, w3], _ => exact ⟨w0, w1, w2, w3, rfl⟩
  have hw := fun d (hd : d ∈ tables_1) => atoms_spec (ws := Jvm.Cond.code x code maxLocals ret :: tables_1) hat d (List.mem_cons_of_mem _ hd)
  have hfit : Fit s := fun {y c} hc i hi => by
    obtain ⟨ha, rfl⟩ := Array.getElem?_eq_some_iff.mp hc
    have q := List.all_eq_true.mp ((Array.all_eq_true_iff_forall_mem.mp hF) _ (Array.getElem_mem ha)) i (List.mem_range.mpr hi)
    simpa [Array.getElem?_eq_getElem hi] using q
  obtain ⟨ga0, gr1⟩ := and_e gr0
  obtain ⟨i0, ei0⟩ := is_v ga0
  obtain rfl : w0 = (.int i0) := Option.some.inj ei0
  obtain ⟨ga1, gr2⟩ := and_e gr1
  obtain ⟨i1, ei1⟩ := is_v ga1
  obtain rfl : w1 = (.int i1) := Option.some.inj ei1
  obtain ⟨ga2, gr3⟩ := and_e gr2
  obtain ⟨i2, ei2⟩ := is_v ga2
  obtain rfl : w2 = (.int i2) := Option.some.inj ei2
  obtain ⟨i3, ei3⟩ := is_v gr3
  obtain rfl : w3 = (.int i3) := Option.some.inj ei3
  obtain ⟨n, o, h1, h2, h3, _, L, rfl, ⟨rfl, N⟩, hq⟩ := rm0 l s _ hw tables_1 i0 i1 i2 i3 s.heap s.heap.size (Nat.le_refl _) p e ha hc hk s m _ below hf ((Spec.applies_iff_loose hf).mp happ).1 ⟨rfl, State.Warmed39.refl s, rfl⟩ trivial
  refine ⟨n, _, h1, h2, h3, hpost _ _ _ _ _ _ ⟨Cond.after_iff.mpr rfl, Cond.after_iff.mpr (eq_i res_at (Term.int_eval (1)) rfl), trivial⟩ ⟨hq.1, hq.2.1, (hq.2.2.sift fun y hy => Or.inr (N y hy)).mono (by decide) (by decide)⟩⟩
theorem main_1_1 : Claimed_1_1 := comes_1 fun _ _ _ _ _ _ h hF => ⟨h.1, hF⟩
theorem main_1_2 : Claimed_1_2 := comes_1 fun _ _ _ _ _ _ h hF => ⟨h.2.1, hF⟩
end Jvm.Pilot.@@N@@
namespace Jvm.Pilot.@@N@@
open Jvm Jvm.ClassFile Sem Op Lib Jvm.Free Jvm.Stand Jvm.Pilot.@@N@@.Jvm.D
/-! MADE BY PROGRAM (witnessworld.py) out of the Statement's table words and the real class files: 10 classes; the members and pool entries that the words name. The judged class is class 1, her method 1. -/
namespace start1
open Jvm.ClassFile
def u (s : String) : CpInfo := .utf8 (stringToUtf16 s)
/-- a pool by its gaps: so many unusable entries, then the entry; so many at the end -/
def gap : Nat → List CpInfo → List CpInfo
  | 0, r => r
  | n + 1, r => .unusable :: gap n r
def poolList (es : List (Nat × CpInfo)) (last : Nat) : List CpInfo := es.foldr (fun e r => gap e.1 (e.2 :: r)) (gap last [])
def pool (es : List (Nat × CpInfo)) (last : Nat) : Array CpInfo := ⟨poolList es last⟩
def fileOf (pool : Array CpInfo) (this : Nat) (attrs : Array Attribute := #[]) (ms : Array MethodInfo := #[]) (fl : Nat := 33) (sup : Nat := 0) (ifs : Array Nat := #[]) (fds : Array FieldInfo := #[]) : ClassFile where
  minorVersion := 0
  majorVersion := 65
  constantPool := pool
  accessFlags := fl
  thisClass := this
  superClass := sup
  interfaces := ifs
  fields := fds
  methods := ms
  attributes := attrs
def plain (name : String) (sup : Option ClassId) : Class where
  name := name
  kind := .ordinary
  loader := none
  accessFlags := 33
  super := sup
  interfaces := #[]
  cf := none
  fields := #[]
  methods := #[]
  instanceTypes := #[]
  staticTypes := #[]
  resolved := #[]
  callSites := []
  init := .initialized
  statics := none
  mirror := none

def pool0 : Array CpInfo := pool [(5, u "<init>"), (0, u "()V"), (1, .class_ 10), (1, u "java/lang/Object")] 113

def k0m0 : Method := { name := "<init>", desc := "()V", sig := { parameters := [], returnType := none }, accessFlags := 1, code := none }
/-- java/lang/Object -/
def k0 : Class := { plain "java/lang/Object" none with
  accessFlags := 33
  interfaces := #[]
  cf := some (fileOf pool0 8 #[] #[{ accessFlags := 1, nameIndex := 5, descriptorIndex := 6, attributes := #[] }] 33 0 #[] #[])
  fields := #[]
  methods := #[k0m0]
  instanceTypes := #[]
  staticTypes := #[]
  resolved := Array.replicate 124 none
  statics := none }

def pool1 : Array CpInfo := pool [(2, .class_ 4), (1, u "java/lang/Object"), (0, u "<init>"), (0, u "()V"), (0, .integer 2147483647), (0, .methodref 9 10), (0, .class_ 11), (0, .nameAndType 12 13), (0, u "java/lang/Math"), (0, u "min"), (0, u "(II)I"), (0, .methodref 9 15), (0, .nameAndType 16 13), (0, u "max"), (0, .methodref 18 19), (0, .class_ 20), (0, .nameAndType 21 22), (0, u "org/cardprobe/CheckCharacterXorPinLaw"), (0, u "part"), (0, u "([BIII)I"), (0, .methodref 24 25), (0, .class_ 26), (0, .nameAndType 27 28), (0, u "org/cardprobe/CheckCharacter"), (0, u "xor"), (0, u "([BII)I"), (2, u "law"), (0, u "(IIII)Z")] 5

def k1m0 : Method := { name := "<init>", desc := "()V", sig := { parameters := [], returnType := none }, accessFlags := 2, code := none }
def k1c1 : Code := { maxStack := 5, maxLocals := 10, code := code, exceptionTable := #[], attributes := #[] }
def k1m1 : Method := { name := "law", desc := "(IIII)Z", sig := { parameters := [.int, .int, .int, .int], returnType := some .boolean }, accessFlags := 9, code := some k1c1 }
def k1c2 : Code := { maxStack := 2, maxLocals := 4, code := method_3_code, exceptionTable := #[], attributes := #[] }
def k1m2 : Method := { name := "part", desc := "([BIII)I", sig := { parameters := [(.array .byte), .int, .int, .int], returnType := some .int }, accessFlags := 10, code := some k1c2 }
/-- org/cardprobe/CheckCharacterXorPinLaw -/
def k1 : Class := { plain "org/cardprobe/CheckCharacterXorPinLaw" (some 0) with
  accessFlags := 49
  interfaces := #[]
  cf := some (fileOf pool1 18 #[] #[{ accessFlags := 2, nameIndex := 5, descriptorIndex := 6, attributes := #[] }, { accessFlags := 9, nameIndex := 31, descriptorIndex := 32, attributes := #[] }, { accessFlags := 10, nameIndex := 21, descriptorIndex := 22, attributes := #[] }] 49 2 #[] #[])
  fields := #[]
  methods := #[k1m0, k1m1, k1m2]
  instanceTypes := #[]
  staticTypes := #[]
  resolved := Array.replicate 38 none
  statics := none }

def pool2 : Array CpInfo := pool [(1, .class_ 2), (0, u "java/lang/Math"), (1, .class_ 6), (1, u "java/lang/Object"), (0, u "<init>"), (0, u "()V"), (89, .class_ 100), (1, u "java/lang/Math$RandomNumberGeneratorHolder"), (71, u "negativeZeroFloatBits"), (0, u "J"), (2, u "negativeZeroDoubleBits"), (21, u "max"), (2, u "min"), (43, u "$assertionsDisabled"), (0, u "Z"), (88, u "(II)I"), (2, u "twoToTheDoubleScaleDown"), (0, u "D"), (4, u "twoToTheDoubleScaleUp"), (9, u "E"), (3, u "PI"), (2, u "TAU"), (2, u "DEGREES_TO_RADIANS"), (0, u "RADIANS_TO_DEGREES")] 94

def k2m0 : Method := { name := "<init>", desc := "()V", sig := { parameters := [], returnType := none }, accessFlags := 2, code := none }
def k2c1 : Code := { maxStack := 2, maxLocals := 2, code := jdk_29_method_65_code, exceptionTable := #[], attributes := #[] }
def k2m1 : Method := { name := "max", desc := "(II)I", sig := { parameters := [.int, .int], returnType := some .int }, accessFlags := 9, code := some k2c1 }
def k2c2 : Code := { maxStack := 2, maxLocals := 2, code := jdk_29_method_69_code, exceptionTable := #[], attributes := #[] }
def k2m2 : Method := { name := "min", desc := "(II)I", sig := { parameters := [.int, .int], returnType := some .int }, accessFlags := 9, code := some k2c2 }
/-- java/lang/Math -/
def k2 : Class := { plain "java/lang/Math" (some 0) with
  accessFlags := 49
  interfaces := #[]
  cf := some (fileOf pool2 1 #[.nestMembers #[98]] #[{ accessFlags := 2, nameIndex := 7, descriptorIndex := 8, attributes := #[] }, { accessFlags := 9, nameIndex := 198, descriptorIndex := 335, attributes := #[] }, { accessFlags := 9, nameIndex := 201, descriptorIndex := 335, attributes := #[] }] 49 4 #[] #[{ accessFlags := 25, nameIndex := 354, descriptorIndex := 339, attributes := #[] }, { accessFlags := 25, nameIndex := 358, descriptorIndex := 339, attributes := #[] }, { accessFlags := 25, nameIndex := 361, descriptorIndex := 339, attributes := #[] }, { accessFlags := 26, nameIndex := 364, descriptorIndex := 339, attributes := #[] }, { accessFlags := 26, nameIndex := 365, descriptorIndex := 339, attributes := #[] }, { accessFlags := 26, nameIndex := 172, descriptorIndex := 173, attributes := #[] }, { accessFlags := 26, nameIndex := 176, descriptorIndex := 173, attributes := #[] }, { accessFlags := 8, nameIndex := 344, descriptorIndex := 339, attributes := #[] }, { accessFlags := 8, nameIndex := 338, descriptorIndex := 339, attributes := #[] }, { accessFlags := 4120, nameIndex := 245, descriptorIndex := 246, attributes := #[] }])
  fields := #[{ name := "E", type := .double, accessFlags := 25, slot := 0, constantValue := 0 }, { name := "PI", type := .double, accessFlags := 25, slot := 1, constantValue := 0 }, { name := "TAU", type := .double, accessFlags := 25, slot := 2, constantValue := 0 }, { name := "DEGREES_TO_RADIANS", type := .double, accessFlags := 26, slot := 3, constantValue := 0 }, { name := "RADIANS_TO_DEGREES", type := .double, accessFlags := 26, slot := 4, constantValue := 0 }, { name := "negativeZeroFloatBits", type := .long, accessFlags := 26, slot := 5, constantValue := 0 }, { name := "negativeZeroDoubleBits", type := .long, accessFlags := 26, slot := 6, constantValue := 0 }, { name := "twoToTheDoubleScaleUp", type := .double, accessFlags := 8, slot := 7, constantValue := 0 }, { name := "twoToTheDoubleScaleDown", type := .double, accessFlags := 8, slot := 8, constantValue := 0 }, { name := "$assertionsDisabled", type := .boolean, accessFlags := 4120, slot := 9, constantValue := 0 }]
  methods := #[k2m0, k2m1, k2m2]
  instanceTypes := #[]
  staticTypes := #[.double, .double, .double, .double, .double, .long, .long, .double, .double, .boolean]
  resolved := Array.replicate 460 none
  statics := none }

def pool3 : Array CpInfo := pool [(2, .class_ 4), (1, u "java/lang/Object"), (0, u "<init>"), (0, u "()V"), (6, .class_ 14), (0, u "org/cardprobe/CheckCharacter"), (2, u "xor"), (0, u "([BII)I")] 5

def k3m0 : Method := { name := "<init>", desc := "()V", sig := { parameters := [], returnType := none }, accessFlags := 2, code := none }
def k3c1 : Code := { maxStack := 3, maxLocals := 5, code := prog_37_method_2_code, exceptionTable := #[], attributes := #[] }
def k3m1 : Method := { name := "xor", desc := "([BII)I", sig := { parameters := [(.array .byte), .int, .int], returnType := some .int }, accessFlags := 8, code := some k3c1 }
/-- org/cardprobe/CheckCharacter -/
def k3 : Class := { plain "org/cardprobe/CheckCharacter" (some 0) with
  accessFlags := 48
  interfaces := #[]
  cf := some (fileOf pool3 13 #[] #[{ accessFlags := 2, nameIndex := 5, descriptorIndex := 6, attributes := #[] }, { accessFlags := 8, nameIndex := 17, descriptorIndex := 18, attributes := #[] }] 48 2 #[] #[])
  fields := #[]
  methods := #[k3m0, k3m1]
  instanceTypes := #[]
  staticTypes := #[]
  resolved := Array.replicate 24 none
  statics := none }

def pool4 : Array CpInfo := pool [(1, u "java/lang/Cloneable"), (0, .class_ 1), (0, u "java/lang/Object"), (0, .class_ 3)] 3

/-- java/lang/Cloneable -/
def k4 : Class := { plain "java/lang/Cloneable" (some 0) with
  accessFlags := 1537
  interfaces := #[]
  cf := some (fileOf pool4 2 #[] #[] 1537 4 #[] #[])
  fields := #[]
  methods := #[]
  instanceTypes := #[]
  staticTypes := #[]
  resolved := Array.replicate 8 none
  statics := none }

def pool5 : Array CpInfo := pool [(1, u "java/io/Serializable"), (0, .class_ 1), (0, u "java/lang/Object"), (0, .class_ 3)] 3

/-- java/io/Serializable -/
def k5 : Class := { plain "java/io/Serializable" (some 0) with
  accessFlags := 1537
  interfaces := #[]
  cf := some (fileOf pool5 2 #[] #[] 1537 4 #[] #[])
  fields := #[]
  methods := #[]
  instanceTypes := #[]
  staticTypes := #[]
  resolved := Array.replicate 8 none
  statics := none }

/-- the primitive byte -/
def k6 : Class := { plain "byte" none with kind := .primitive 'B', accessFlags := 0x411 }
/-- [B -/
def k7 : Class := { plain "[B" (some 0) with kind := .array 6 .byte, interfaces := #[4, 5], accessFlags := 1041 }

/-- the primitive int -/
def k8 : Class := { plain "int" none with kind := .primitive 'I', accessFlags := 0x411 }
/-- [I -/
def k9 : Class := { plain "[I" (some 0) with kind := .array 8 .int, interfaces := #[4, 5], accessFlags := 1041 }

def heap : Heap := #[]
def classes : Array Class := #[k0, k1, k2, k3, k4, k5, k6, k7, k8, k9]
def interned : List (Array UInt16 × Addr) := []
def slotsUsed : Nat := 0
def theMethod : MethodId := ⟨1, 1⟩
def args0 : Array Value := #[.int 5, .int 5, .int 5, .int 5]
def aboutOver (below : List Frame) : State where
  vm := { classes := classes, interned := interned.toArray }
  heap := heap
  slotsUsed := slotsUsed
  threads := #[{ frames := .invoking theMethod args0 :: below }]
def below0 : List Frame := [.native { method := ⟨0, 0⟩, args := #[] }]
def about1 : State := aboutOver below0
def p0 : Program := .bare "" "" ""
def e0 : Env := launch0.env 0 0 0
theorem w_frames : about1.frames = Frame.invoking theMethod args0 :: below0 := rfl
set_option maxRecDepth 65536 in
theorem w_args : argsFit about1.vm theMethod args0 = true := by decide +kernel
set_option maxRecDepth 65536 in
theorem w_heap : heapFits about1 = true := by decide +kernel
set_option maxRecDepth 65536 in
theorem w_runnable : about1.curStatus? = some .runnable := by decide +kernel
set_option maxRecDepth 65536 in
theorem w_alone : about1.alone = true := by decide +kernel
set_option maxRecDepth 65536 in
theorem w_named : about1.methodNamed? x = some theMethod := by decide +kernel
set_option maxRecDepth 65536 in
theorem w_hears : about1.hears theMethod below0 = true := by decide +kernel
set_option maxRecDepth 65536 in
theorem w_ripe : about1.ripe theMethod args0 below0 = true := by decide +kernel
theorem w_running : about1.status = .running := rfl
set_option maxRecDepth 65536 in
theorem w_room : about1.hasRoom e0.platform room_1 = true :=
  launch0.hasRoom_least _ room_1 (by decide +kernel) (by decide +kernel) (by decide +kernel) (by decide +kernel) (by decide +kernel) (by decide +kernel)
theorem allAtoms_all (ts : List Jvm.Cond) (a : Array Jvm.Value) (st : Jvm.State) : (allAtoms ts).before a st = ts.all (fun c => c.before a st) := by
  induction ts with
  | nil => rfl
  | cons c t ih =>
    show (Jvm.Cond.and c (allAtoms t)).before a st = _
    rw [Jvm.Cond.before_and, ih, List.all_cons]
def words1 : List Jvm.Cond := Jvm.Cond.code x code maxLocals ret :: tables_1
/-- a 'code' word, met by the world's own term for the bytes: nothing is compared byte by byte -/
theorem code_word {y : MethodName} {bytes : ByteArray} {mx : Nat} {rt : Option FieldType} {a : Array Value} {s : State} {m : MethodId} {meth : Method} {c : Code} (h1 : s.methodNamed? y = some m) (h2 : s.vm.method? m = some meth) (h3 : meth.code = some c) (h4 : c.code = bytes)
    (h5 : (c.maxLocals == mx && c.exceptionTable.isEmpty && decide (c.maxStack ≤ mostOperands) && decide (meth.sig.returnType = rt) && !meth.locks && decide (parseMethodDescriptor y.desc = some meth.sig)) = true) : (Jvm.Cond.code y bytes mx rt).before a s = true := by
  simp only [Bool.and_eq_true, beq_iff_eq, Bool.not_eq_true', decide_eq_true_eq] at h5
  obtain ⟨⟨⟨⟨⟨g1, g2⟩, g3⟩, g4⟩, g5⟩, g6⟩ := h5
  simp [Cond.before, Cond.holds, Cond.value, h1, h2, h3, h4, g1, g2, g3, g4, g5, g6]
def isCode : Jvm.Cond → Bool
  | .code _ _ _ _ => true
  | _ => false
theorem all_split {L : List Jvm.Cond} {P : Jvm.Cond → Bool} (h1 : L.all (fun c => isCode c || P c) = true) (h2 : ∀ c ∈ L.filter isCode, P c = true) : L.all P = true := by
  refine List.all_eq_true.mpr fun c hc => ?_
  have h := List.all_eq_true.mp h1 c hc
  rcases Bool.eq_false_or_eq_true (isCode c) with hi | hi
  · exact h2 c (List.mem_filter.mpr ⟨hc, hi⟩)
  · simpa [hi] using h
set_option maxRecDepth 65536 in
theorem w_c0 : (Jvm.Cond.code x code maxLocals ret).before args0 about1 = true := code_word (m := ⟨1, 1⟩) (meth := k1m1) (c := k1c1) (by decide +kernel) rfl rfl rfl (by decide +kernel)
set_option maxRecDepth 65536 in
theorem w_c1 : (Jvm.Cond.code ({ cls := "java/lang/Math", name := "min", desc := "(II)I" } : Jvm.MethodName) jdk_29_method_69_code (2 : Nat) (Option.some Jvm.ClassFile.FieldType.int)).before args0 about1 = true := code_word (m := ⟨2, 2⟩) (meth := k2m2) (c := k2c2) (by decide +kernel) rfl rfl rfl (by decide +kernel)
set_option maxRecDepth 65536 in
theorem w_c2 : (Jvm.Cond.code ({ cls := "java/lang/Math", name := "max", desc := "(II)I" } : Jvm.MethodName) jdk_29_method_65_code (2 : Nat) (Option.some Jvm.ClassFile.FieldType.int)).before args0 about1 = true := code_word (m := ⟨2, 1⟩) (meth := k2m1) (c := k2c1) (by decide +kernel) rfl rfl rfl (by decide +kernel)
set_option maxRecDepth 65536 in
theorem w_c3 : (Jvm.Cond.code ({ cls := "org/cardprobe/CheckCharacterXorPinLaw", name := "part", desc := "([BIII)I" } : Jvm.MethodName) method_3_code (4 : Nat) (Option.some Jvm.ClassFile.FieldType.int)).before args0 about1 = true := code_word (m := ⟨1, 2⟩) (meth := k1m2) (c := k1c2) (by decide +kernel) rfl rfl rfl (by decide +kernel)
set_option maxRecDepth 65536 in
theorem w_c4 : (Jvm.Cond.code ({ cls := "org/cardprobe/CheckCharacter", name := "xor", desc := "([BII)I" } : Jvm.MethodName) prog_37_method_2_code (5 : Nat) (Option.some Jvm.ClassFile.FieldType.int)).before args0 about1 = true := code_word (m := ⟨3, 1⟩) (meth := k3m1) (c := k3c1) (by decide +kernel) rfl rfl rfl (by decide +kernel)
def codes1 : List Jvm.Cond := [Jvm.Cond.code x code maxLocals ret, Jvm.Cond.code ({ cls := "java/lang/Math", name := "min", desc := "(II)I" } : Jvm.MethodName) jdk_29_method_69_code (2 : Nat) (Option.some Jvm.ClassFile.FieldType.int), Jvm.Cond.code ({ cls := "java/lang/Math", name := "max", desc := "(II)I" } : Jvm.MethodName) jdk_29_method_65_code (2 : Nat) (Option.some Jvm.ClassFile.FieldType.int), Jvm.Cond.code ({ cls := "org/cardprobe/CheckCharacterXorPinLaw", name := "part", desc := "([BIII)I" } : Jvm.MethodName) method_3_code (4 : Nat) (Option.some Jvm.ClassFile.FieldType.int), Jvm.Cond.code ({ cls := "org/cardprobe/CheckCharacter", name := "xor", desc := "([BII)I" } : Jvm.MethodName) prog_37_method_2_code (5 : Nat) (Option.some Jvm.ClassFile.FieldType.int)]
set_option maxRecDepth 65536 in
theorem codes_eq : words1.filter isCode = codes1 := rfl
theorem w_codes : ∀ c ∈ words1.filter isCode, c.before args0 about1 = true := by
  rw [codes_eq]
  intro c hc
  simp only [codes1, List.mem_cons, List.not_mem_nil, or_false] at hc
  rcases hc with rfl | rfl | rfl | rfl | rfl
  · exact w_c0
  · exact w_c1
  · exact w_c2
  · exact w_c3
  · exact w_c4
set_option maxRecDepth 65536 in
theorem w_t1 : words1.all (fun c => isCode c || c.before args0 about1) = true := by decide +kernel
theorem w_tables : (allAtoms (Jvm.Cond.code x code maxLocals ret :: tables_1)).before args0 about1 = true := by
  rw [allAtoms_all]
  show words1.all (fun c => c.before args0 about1) = true
  refine all_split ?_ w_codes
  rw [w_t1]
set_option maxRecDepth 65536 in
theorem w_case : (Jvm.Cond.and given_1 narrow_1).before args0 about1 = true := by decide +kernel
theorem w_applies : (headSpec (Jvm.Cond.code x code maxLocals ret :: tables_1) room_1).applies x e0.platform about1 = true :=
  (Spec.applies_iff w_frames).mpr ⟨w_running, w_runnable, w_alone, w_named, w_hears, w_ripe, w_room, w_tables⟩
theorem atStart : AtStart classFile x code maxLocals ret World_1 tables_1 room_1 Calls_1 rest_1 Pre_1 launch0 p0 e0 about1 theMethod args0 below0 :=
  ⟨lists_1, trivial, launch0.admits_env _ _ _, launch0.least_env, fairChoices_fair.cas, fairChoices_fair.clock, w_frames, w_args, w_heap, w_applies, trivial, trivial, w_case⟩
end start1
theorem witness_1 : WitnessClaimed_1 := ⟨start1.p0, start1.e0, start1.about1, start1.theMethod, start1.args0, start1.below0, start1.atStart⟩
end Jvm.Pilot.@@N@@
