import JvmDerived
import JvmDerived.Pilot.@@N@@Statement
import JvmDerived.Pilot.@@N@@Code
set_option linter.unusedVariables false
set_option linter.unusedSimpArgs false
@@BLOCK:NumsL.lean.txt@@
namespace Jvm.RoadKit
open Sem ClassFile Op Lib Jvm.Stand Jvm.Free Jvm.LawKit
section Goes
variable {p : Program} {l : Launch} {e : Env} {R : Room} {s : State} {m : MethodId} {args : Array Value} {below : List Frame} {meth : Method} {c : Code} {T : State} {locs : List Loc} {cells slots : Nat}
/-- from here the run comes to its return, and Q holds there -/
def Goes (p : Program) (e : Env) (below : List Frame) (s : State) (Q : Option Value → Heap → List Loc → Prop) (kc ks : Nat) (S : State) : Prop :=
  ∃ s₂ o, Steps p.tables e below S s₂ ∧ s₂.status = .running ∧ Ended s₂ below o ∧ ∃ v L, o = .returned v ∧ Q v s₂.heap L ∧ FrameEnd s o s₂ L kc ks
variable {Q Q' : Option Value → Heap → List Loc → Prop} {kc ks : Nat} {A B : State}
theorem Goes.go (h : ∀ t, Steps p.tables e below A t → Steps p.tables e below B t) (g : Goes p e below s Q kc ks A) : Goes p e below s Q kc ks B := by
  obtain ⟨s2, o, h1, h2⟩ := g
  exact ⟨s2, o, h _ h1, h2⟩
theorem Goes.tr (h : Steps p.tables e below B A) (g : Goes p e below s Q kc ks A) : Goes p e below s Q kc ks B := g.go fun _ k => h.trans k
theorem Goes.weaken (h : ∀ v hp L, Q' v hp L → Q v hp L) (g : Goes p e below s Q' kc ks A) : Goes p e below s Q kc ks A := by
  obtain ⟨s2, o, h1, h2, h3, v, L, h4, h5, h6⟩ := g
  exact ⟨s2, o, h1, h2, h3, v, L, h4, h _ _ _ h5, h6⟩
theorem Goes.castQ (h : Q = Q') (g : Goes p e below s Q' kc ks A) : Goes p e below s Q kc ks A := h ▸ g
theorem Goes.out (X : Stand p l e R s m args below meth c T locs cells slots) (hlk : meth.locks = false) {v : Option Value} (hv : meth.sig.returnType = none → v = none) {F : State}
    (hstep : ∀ fs, (∀ (f : JFrame) (acts : List Action), f.method = m → f.locked = none → f.entered = [] → (doReturn e (T.setTop f) acts v).1 = T.setFrames fs) → Steps p.tables e below F (T.setFrames fs))
    (hq : Q v T.heap locs) (hc : cells ≤ kc) (hs : slots ≤ ks) : Goes p e below s Q kc ks F := by
  obtain ⟨fs, hr, hrun, hended, hW, hsame⟩ := X.leave (v := v) hv hlk
  exact ⟨_, _, hstep fs hr, hrun, hended, _, _, rfl, hq, ⟨_, rfl⟩, hW, hsame.mono hc hs⟩
theorem retI (X : Stand p l e R s m args below meth c T locs cells slots) (hx : p.tables.exec = Jvm.exec) {pc : Nat} {Ls : Array Slot} {z : Int32} {rest : List Value} (hret : meth.sig.returnType = some .int) (hd : decode c.code pc = .ok (.ireturn, 1)) {fs : List Frame}
    (hl : ∀ (f : JFrame) (acts : List Action), f.method = m → f.locked = none → f.entered = [] → (doReturn e (T.setTop f) acts (some (.int z))).1 = T.setFrames fs) : Steps p.tables e below (T.setTop (mkF m pc Ls (.int z :: rest))) (T.setFrames fs) := by
  have hm' : T.vm.method? m = some meth := X.method'
  have hn : narrow .int (.int z) = .int z := rfl
  show Steps p.tables e below (T.setTop { method := m, pc := pc, locals := Ls, stack := _ :: rest, locked := none }) _
  jvm_step X.here [X.here.top, hx, hd, hm', hret, hn]
  first | (intro acts; rw [hl _ acts rfl rfl rfl]) | rw [hl _ _ rfl rfl rfl]
  exact Steps.refl _
theorem Goes.retI (X : Stand p l e R s m args below meth c T locs cells slots) (hx : p.tables.exec = Jvm.exec) (hlk : meth.locks = false) (hret : meth.sig.returnType = some .int) {pc : Nat} {Ls : Array Slot} {z : Int32} {rest : List Value} (hd : decode c.code pc = .ok (.ireturn, 1))
    (hq : Q (some (.int z)) T.heap locs) (hc : cells ≤ kc) (hs : slots ≤ ks) : Goes p e below s Q kc ks (T.setTop (mkF m pc Ls (.int z :: rest))) :=
  Goes.out X hlk (fun h => by rw [hret] at h; cases h) (fun fs hr => Jvm.RoadKit.retI X hx hret hd hr) hq hc hs
theorem Goes.retN (t : FieldType) (X : Stand p l e R s m args below meth c T locs cells slots) (hx : p.tables.exec = Jvm.exec) (hlk : meth.locks = false) (hret : meth.sig.returnType = some t) (ht : t = .boolean ∨ t = .byte ∨ t = .char ∨ t = .short) {pc : Nat} {Ls : Array Slot} {z : Int32} {rest : List Value} (hd : decode c.code pc = .ok (.ireturn, 1))
    (hq : Q (some (.int (nar t z))) T.heap locs) (hc : cells ≤ kc) (hs : slots ≤ ks) : Goes p e below s Q kc ks (T.setTop (mkF m pc Ls (.int z :: rest))) :=
  Goes.out X hlk (fun h => by rw [hret] at h; cases h) (fun fs hr => Jvm.RoadKit.retN X hx hret ht hd hr) hq hc hs
theorem Goes.ret0 (X : Stand p l e R s m args below meth c T locs cells slots) (hx : p.tables.exec = Jvm.exec) (hlk : meth.locks = false) (hret : meth.sig.returnType = none) {pc : Nat} {Ls : Array Slot} (hd : decode c.code pc = .ok (.return_, 1))
    (hq : Q none T.heap locs) (hc : cells ≤ kc) (hs : slots ≤ ks) : Goes p e below s Q kc ks (T.setTop (mkF m pc Ls [])) :=
  Goes.out X hlk (fun _ => rfl) (fun fs hr => X.returnOut hx hret hd hr) hq hc hs
theorem Goes.retJ (X : Stand p l e R s m args below meth c T locs cells slots) (hx : p.tables.exec = Jvm.exec) (hlk : meth.locks = false) (hret : meth.sig.returnType = some .long) {pc : Nat} {Ls : Array Slot} {z : Int64} (hd : decode c.code pc = .ok (.lreturn, 1))
    (hq : Q (some (.long z)) T.heap locs) (hc : cells ≤ kc) (hs : slots ≤ ks) : Goes p e below s Q kc ks (T.setTop (mkF m pc Ls [.long z])) :=
  Goes.out X hlk (fun h => by rw [hret] at h; cases h) (fun fs hr => X.lreturnOut hx hret hd hr) hq hc hs
theorem Goes.retA (X : Stand p l e R s m args below meth c T locs cells slots) (hx : p.tables.exec = Jvm.exec) (hlk : meth.locks = false) {w : Value} (hw : w.isRef = true) {t : FieldType} (hret : meth.sig.returnType = some t) (ht : t.isReference = true) {pc : Nat} {Ls : Array Slot} (hd : decode c.code pc = .ok (.areturn, 1))
    (hq : Q (some w) T.heap locs) (hc : cells ≤ kc) (hs : slots ≤ ks) : Goes p e below s Q kc ks (T.setTop (mkF m pc Ls [w])) :=
  Goes.out X hlk (fun h => by rw [hret] at h; cases h) (fun fs hr => X.areturnOut hx hw hret ht hd hr) hq hc hs
/-- the answer of a method that writes nothing -/
def Qp (z : Value) (h0 : Heap) (n0 : Nat) (v : Option Value) (h : Heap) (L : List Loc) : Prop := v = some z ∧ Fr n0 L ∧ h = h0
/-- the answer of a method that writes nothing and returns nothing -/
def Qn (h0 : Heap) (n0 : Nat) (v : Option Value) (h : Heap) (L : List Loc) : Prop := v = none ∧ Fr n0 L ∧ h = h0
theorem Goes.qi {z z' : Int32} {h0 : Heap} {n0 : Nat} (h : z = z') (g : Goes p e below s (Qp (.int z') h0 n0) kc ks A) : Goes p e below s (Qp (.int z) h0 n0) kc ks A := h ▸ g
theorem Goes.qj {z z' : Int64} {h0 : Heap} {n0 : Nat} (h : z = z') (g : Goes p e below s (Qp (.long z') h0 n0) kc ks A) : Goes p e below s (Qp (.long z) h0 n0) kc ks A := h ▸ g
end Goes
end Jvm.RoadKit
namespace Jvm.RoadKit
open Sem ClassFile Op Lib Jvm.Stand Jvm.Free Jvm.LawKit
/-- an array of ints (bytes, chars, booleans): its length and what each place holds -/
def IA (Z : State) (h : Heap) (a : Addr) (ty : FieldType) (n : Nat) (f : Nat → Int32) : Prop :=
  ∃ c : Cell, Arr Z h a c ty ∧ c.slots.size = n ∧ n < 2 ^ 31 ∧ ∀ i, i < n → c.slots[i]? = some (.int (f i)) ∧ fits ty (.int (f i)) = true
def own_upd (f : Nat → Int32) (i : Nat) (v : Int32) : Nat → Int32 := fun k => if k = i then v else f k
section IAs
variable {p : Program} {l : Launch} {e : Env} {R : Room} {s : State} {m : MethodId} {args : Array Value} {below : List Frame} {meth : Method} {c : Code} {T : State} {locs : List Loc} {cells slots : Nat} {Z : State} {a0 : Array Value} {h h' : Heap} {a b : Addr} {ty : FieldType} {n : Nat} {f f' : Nat → Int32} {sl : Nat} {v : Value} {ws : List Addr}
theorem IA.lt (F : IA Z h a ty n f) : a < h.size := by obtain ⟨c, A, -⟩ := F; exact A.lt
theorem IA.ext (F : IA Z h a ty n f) (E : Ext h h') : IA Z h' a ty n f := by obtain ⟨c, A, r⟩ := F; exact ⟨c, A.ext E, r⟩
theorem IA.other (F : IA Z h b ty n f) (W : Wr h h' a sl v) (q : b ≠ a) : IA Z h' b ty n f := by obtain ⟨c, A, r⟩ := F; exact ⟨c, A.other W q, r⟩
theorem IA.keep (F : IA Z h a ty n f) (K : Keep h h' ws) (q : a ∉ ws) : IA Z h' a ty n f := by obtain ⟨c, A, r⟩ := F; exact ⟨c, ⟨K.2.1 a c A.1 q, A.2⟩, r⟩
theorem IA.as (F : IA Z h a ty n f) (q : ∀ i, i < n → f i = f' i) : IA Z h a ty n f' := by
  obtain ⟨c, A, S, M, H⟩ := F
  exact ⟨c, A, S, M, fun i hi => by rw [← q i hi]; exact H i hi⟩
theorem IA.bound (F : IA Z h a ty n f) : n < 2 ^ 31 := by obtain ⟨c, A, S, M, H⟩ := F; exact M
theorem own_nat {i : Nat} (hi : i < 2 ^ 31) : (Int32.ofNat i).toInt = i := Int32.toInt_ofNat_of_lt (by omega)
theorem own_cl {i : Nat} (hi : i < 2 ^ 31) : (Int32.ofNat i).toNatClampNeg = i := by
  have := own_nat hi
  show (Int32.ofNat i).toInt.toNat = i
  omega
theorem own_in {i : Nat} (hi : i < n) (hn : n < 2 ^ 31) : ¬ (Int32.ofNat i < 0 ∨ n ≤ (Int32.ofNat i).toNatClampNeg) := by
  rw [own_cl (by omega)]
  rintro (q | q)
  · have := Int32.lt_iff_toInt_lt.mp q
    rw [own_nat (by omega)] at this
    have z : (0 : Int32).toInt = 0 := rfl
    omega
  · omega
theorem IA.set {c : Cell} (A : Arr Z h a c ty) (S : c.slots.size = n) (M : n < 2 ^ 31) (H : ∀ i, i < n → c.slots[i]? = some (.int (f i)) ∧ fits ty (.int (f i)) = true) {i : Nat} (hi : i < n) {x : Int32} (hx : fits ty (.int x) = true) (W : Wr h h' a i (.int x)) : IA Z h' a ty n (own_upd f i x) := by
  refine ⟨c.setSlot i (.int x), A.same W, by rw [sz_set]; exact S, M, fun k hk => ?_⟩
  by_cases q : k = i
  · subst q
    simp only [own_upd, if_pos]
    exact ⟨by simp [Cell.setSlot, S, hk], hx⟩
  · simp only [own_upd, if_neg q]
    refine ⟨?_, (H k hk).2⟩
    rw [← (H k hk).1]
    simp only [Cell.setSlot]
    exact Array.getElem?_setIfInBounds_ne (Ne.symm q)
theorem own_newA (X : Stand p l e R s m args below meth c T locs cells slots) (hx : p.tables.exec = Jvm.exec) (hZ : Z.Warmed39 s.vm) {aty : ArrayType} (w : (Cond.arrayClass (newarray.typeOf aty)).before a0 Z = true) (eT : T.heap = h) {g : JFrame} (hg : g.method = m) (hd : decode c.code g.pc = .ok (.newarray aty, 2)) {z : Int32} {rest : List Value} (hs : g.stack = .int z :: rest)
    {n : Nat} (hz : z = Int32.ofNat n) {cap : Nat} (hcap : n ≤ cap) (hb : cap * 8 ≤ 536870912) (hc : cells + 1 ≤ R.cells) (hl : slots + cap ≤ R.slots) (hdv : defaultValue (newarray.typeOf aty) = .int 0) (hft : fits (newarray.typeOf aty) (.int 0) = true) {ad : String} (had : "[" ++ (newarray.typeOf aty).toString = ad) :
    ∃ T' h', Stand p l e R s m args below meth c T' locs (cells + 1) (slots + cap) ∧ T'.heap = h' ∧ Ext h h' ∧ IA Z h' h.size (newarray.typeOf aty) n (fun _ => 0) ∧ Exa Z h' h.size ad ∧
      ∀ target, Steps p.tables e below (T'.setTop { g with pc := g.pc + 2, stack := .ref h.size :: rest }) target → Steps p.tables e below (T.setTop g) target := by
  have hn31 : n < 2 ^ 31 := by omega
  have hcl : z.toNatClampNeg = n := by rw [hz]; exact own_cl hn31
  have hneg : ¬ z < 0 := by
    rw [hz]; intro q
    have := Int32.lt_iff_toInt_lt.mp q
    rw [own_nat hn31] at this
    have z : (0 : Int32).toInt = 0 := rfl
    omega
  obtain ⟨T', h', cA, X', e', E, A, EX, st⟩ := newPE X hx hZ w eT hg hd hs hneg (cap := cap) (by rw [hcl]; exact hcap) hb hc hl had
  refine ⟨T', h', X', e', E, ⟨_, A, by rw [sz_new]; exact hcl, hn31, fun i hi => ⟨?_, hft⟩⟩, EX, st⟩
  have := get_new (cA := cA) (ty := newarray.typeOf aty) (n := z) (k := Int32.ofNat i) (by rw [hcl]; exact own_in hi hn31)
  rw [own_cl (by omega), hdv] at this
  exact this
theorem own_stI (X : Stand p l e R s m args below meth c T locs cells slots) (hx : p.tables.exec = Jvm.exec) (hZ : Z.Warmed39 s.vm) (eT : T.heap = h) (A : IA Z h a .int n f) {j x : Int32} {i : Nat} (hj : j = Int32.ofNat i) (hi : i < n) {g : JFrame} (hg : g.method = m) {rest : List Value} (hs : g.stack = .int x :: .int j :: .ref a :: rest) (hd : decode c.code g.pc = .ok (.iastore, 1)) :
    ∃ T' h', Stand p l e R s m args below meth c T' (locs ++ [⟨a, i⟩]) cells slots ∧ T'.heap = h' ∧ Wr h h' a i (.int x) ∧ IA Z h' a .int n (own_upd f i x) ∧ ∀ target, Steps p.tables e below (T'.setTop { g with pc := g.pc + 1, stack := rest }) target → Steps p.tables e below (T.setTop g) target := by
  obtain ⟨cl, A, S, M, H⟩ := A
  subst hj
  obtain ⟨T', h', X', e', W, st⟩ := stI X hx hZ eT A (j := Int32.ofNat i) (by rw [S]; exact own_in hi M) hg hs hd
  rw [own_cl (by omega)] at X' W
  exact ⟨T', h', X', e', W, IA.set A S M H hi rfl W, st⟩
theorem own_stB (X : Stand p l e R s m args below meth c T locs cells slots) (hx : p.tables.exec = Jvm.exec) (hZ : Z.Warmed39 s.vm) (eT : T.heap = h) (A : IA Z h a .byte n f) {j x : Int32} {i : Nat} (hj : j = Int32.ofNat i) (hi : i < n) {g : JFrame} (hg : g.method = m) {rest : List Value} (hs : g.stack = .int x :: .int j :: .ref a :: rest) (hd : decode c.code g.pc = .ok (.bastore, 1)) :
    ∃ T' h', Stand p l e R s m args below meth c T' (locs ++ [⟨a, i⟩]) cells slots ∧ T'.heap = h' ∧ Wr h h' a i (.int (nar .byte x)) ∧ IA Z h' a .byte n (own_upd f i (nar .byte x)) ∧ ∀ target, Steps p.tables e below (T'.setTop { g with pc := g.pc + 1, stack := rest }) target → Steps p.tables e below (T.setTop g) target := by
  obtain ⟨cl, A, S, M, H⟩ := A
  subst hj
  obtain ⟨T', h', X', e', W, st⟩ := stB X hx hZ eT A (j := Int32.ofNat i) (by rw [S]; exact own_in hi M) hg hs hd
  rw [own_cl (by omega)] at X' W
  exact ⟨T', h', X', e', W, IA.set A S M H hi (fits_nar_byte _) W, st⟩
theorem own_stC (X : Stand p l e R s m args below meth c T locs cells slots) (hx : p.tables.exec = Jvm.exec) (hZ : Z.Warmed39 s.vm) (eT : T.heap = h) (A : IA Z h a .char n f) {j x : Int32} {i : Nat} (hj : j = Int32.ofNat i) (hi : i < n) {g : JFrame} (hg : g.method = m) {rest : List Value} (hs : g.stack = .int x :: .int j :: .ref a :: rest) (hd : decode c.code g.pc = .ok (.castore, 1)) :
    ∃ T' h', Stand p l e R s m args below meth c T' (locs ++ [⟨a, i⟩]) cells slots ∧ T'.heap = h' ∧ Wr h h' a i (.int (nar .char x)) ∧ IA Z h' a .char n (own_upd f i (nar .char x)) ∧ ∀ target, Steps p.tables e below (T'.setTop { g with pc := g.pc + 1, stack := rest }) target → Steps p.tables e below (T.setTop g) target := by
  obtain ⟨cl, A, S, M, H⟩ := A
  subst hj
  obtain ⟨T', h', X', e', W, st⟩ := stC X hx hZ eT A (j := Int32.ofNat i) (by rw [S]; exact own_in hi M) hg hs hd
  rw [own_cl (by omega)] at X' W
  exact ⟨T', h', X', e', W, IA.set A S M H hi (fits_nar_char _) W, st⟩
theorem own_stZ (X : Stand p l e R s m args below meth c T locs cells slots) (hx : p.tables.exec = Jvm.exec) (hZ : Z.Warmed39 s.vm) (eT : T.heap = h) (A : IA Z h a .boolean n f) {j x : Int32} {i : Nat} (hj : j = Int32.ofNat i) (hi : i < n) {g : JFrame} (hg : g.method = m) {rest : List Value} (hs : g.stack = .int x :: .int j :: .ref a :: rest) (hd : decode c.code g.pc = .ok (.bastore, 1)) :
    ∃ T' h', Stand p l e R s m args below meth c T' (locs ++ [⟨a, i⟩]) cells slots ∧ T'.heap = h' ∧ Wr h h' a i (.int (nar .boolean x)) ∧ IA Z h' a .boolean n (own_upd f i (nar .boolean x)) ∧ ∀ target, Steps p.tables e below (T'.setTop { g with pc := g.pc + 1, stack := rest }) target → Steps p.tables e below (T.setTop g) target := by
  obtain ⟨cl, A, S, M, H⟩ := A
  subst hj
  obtain ⟨T', h', X', e', W, st⟩ := stZ X hx hZ eT A (j := Int32.ofNat i) (by rw [S]; exact own_in hi M) hg hs hd
  rw [own_cl (by omega)] at X' W
  exact ⟨T', h', X', e', W, IA.set A S M H hi (fits_nar_bool _) W, st⟩
theorem own_ldI (X : Stand p l e R s m args below meth c T locs cells slots) (hx : p.tables.exec = Jvm.exec) (hZ : Z.Warmed39 s.vm) (eT : T.heap = h) (A : IA Z h a .int n f) {j : Int32} {i : Nat} (hj : j = Int32.ofNat i) (hi : i < n) {g : JFrame} (hg : g.method = m) {rest : List Value} (hs : g.stack = .int j :: .ref a :: rest) (hd : decode c.code g.pc = .ok (.iaload, 1)) :
    ∀ target, Steps p.tables e below (T.setTop { g with pc := g.pc + 1, stack := .int (f i) :: rest }) target → Steps p.tables e below (T.setTop g) target := by
  obtain ⟨cl, A, S, M, H⟩ := A
  subst hj
  exact X.iaload hx (j := Int32.ofNat i) (v := .int (f i)) (by rw [eT]; exact A.1) (State.isArrayOf_alike hZ.alike A.2.1) A.2.2 (by rw [S]; exact own_in hi M) (by rw [own_cl (by omega)]; exact (H i hi).1) hg hs hd
theorem own_ldB (X : Stand p l e R s m args below meth c T locs cells slots) (hx : p.tables.exec = Jvm.exec) (hZ : Z.Warmed39 s.vm) (eT : T.heap = h) (A : IA Z h a .byte n f) {j : Int32} {i : Nat} (hj : j = Int32.ofNat i) (hi : i < n) {g : JFrame} (hg : g.method = m) {rest : List Value} (hs : g.stack = .int j :: .ref a :: rest) (hd : decode c.code g.pc = .ok (.baload, 1)) :
    ∀ target, Steps p.tables e below (T.setTop { g with pc := g.pc + 1, stack := .int (f i) :: rest }) target → Steps p.tables e below (T.setTop g) target := by
  obtain ⟨cl, A, S, M, H⟩ := A
  subst hj
  exact X.baloadBytes hx (j := Int32.ofNat i) (v := .int (f i)) (by rw [eT]; exact A.1) (State.isArrayOf_alike hZ.alike A.2.1) A.2.2 (by rw [S]; exact own_in hi M) (by rw [own_cl (by omega)]; exact (H i hi).1) hg hs hd
theorem own_ldZ (X : Stand p l e R s m args below meth c T locs cells slots) (hx : p.tables.exec = Jvm.exec) (hZ : Z.Warmed39 s.vm) (eT : T.heap = h) (A : IA Z h a .boolean n f) {j : Int32} {i : Nat} (hj : j = Int32.ofNat i) (hi : i < n) {g : JFrame} (hg : g.method = m) {rest : List Value} (hs : g.stack = .int j :: .ref a :: rest) (hd : decode c.code g.pc = .ok (.baload, 1)) :
    ∀ target, Steps p.tables e below (T.setTop { g with pc := g.pc + 1, stack := .int (f i) :: rest }) target → Steps p.tables e below (T.setTop g) target := by
  obtain ⟨cl, A, S, M, H⟩ := A
  subst hj
  exact X.baloadBooleans hx (j := Int32.ofNat i) (v := .int (f i)) (by rw [eT]; exact A.1) (State.isArrayOf_alike hZ.alike A.2.1) A.2.2 (by rw [S]; exact own_in hi M) (by rw [own_cl (by omega)]; exact (H i hi).1) hg hs hd
theorem own_ldC (X : Stand p l e R s m args below meth c T locs cells slots) (hx : p.tables.exec = Jvm.exec) (hZ : Z.Warmed39 s.vm) (eT : T.heap = h) (A : IA Z h a .char n f) {j : Int32} {i : Nat} (hj : j = Int32.ofNat i) (hi : i < n) {g : JFrame} (hg : g.method = m) {rest : List Value} (hs : g.stack = .int j :: .ref a :: rest) (hd : decode c.code g.pc = .ok (.caload, 1)) :
    ∀ target, Steps p.tables e below (T.setTop { g with pc := g.pc + 1, stack := .int (f i) :: rest }) target → Steps p.tables e below (T.setTop g) target := by
  obtain ⟨cl, A, S, M, H⟩ := A
  subst hj
  exact X.caload hx (j := Int32.ofNat i) (v := .int (f i)) (by rw [eT]; exact A.1) (State.isArrayOf_alike hZ.alike A.2.1) A.2.2 (by rw [S]; exact own_in hi M) (by rw [own_cl (by omega)]; exact (H i hi).1) hg hs hd
theorem own_len (X : Stand p l e R s m args below meth c T locs cells slots) (hx : p.tables.exec = Jvm.exec) (hZ : Z.Warmed39 s.vm) (eT : T.heap = h) (A : IA Z h a ty n f) {g : JFrame} (hg : g.method = m) {rest : List Value} (hs : g.stack = .ref a :: rest) (hd : decode c.code g.pc = .ok (.arraylength, 1)) :
    ∀ target, Steps p.tables e below (T.setTop { g with pc := g.pc + 1, stack := .int (Int32.ofNat n) :: rest }) target → Steps p.tables e below (T.setTop g) target := by
  obtain ⟨cl, A, S, M, H⟩ := A
  subst S
  exact X.arraylength hx (by rw [eT]; exact A.1) (State.isArrayOf_alike hZ.alike A.2.1) hg hs hd
end IAs
end Jvm.RoadKit
namespace Jvm.RoadKit
open Sem ClassFile Op Lib Jvm.Stand Jvm.Free Jvm.LawKit
theorem own_eqNat {x : Int32} {n : Nat} (h : x.toInt = n) : x = Int32.ofNat n := Int32.toInt_inj.mp (by rw [h, own_nat (by have := x.toInt_lt; omega)])
theorem own_andN (x m : Int32) (k : Nat) (hk : k < 32) (hm : m.toBitVec.toNat = 2 ^ k - 1) : ∃ n : Nat, n < 2 ^ k ∧ x &&& m = Int32.ofNat n := by
  have h := Jvm.Kit.i32_mask x m hk hm
  have hpos : (0 : Int) < 2 ^ k := Int.pow_pos (by decide)
  have h1 := Int.emod_nonneg x.toInt (Int.ne_of_gt hpos)
  have h2 := Int.emod_lt_of_pos x.toInt hpos
  refine ⟨(x.toInt % 2 ^ k).toNat, ?_, own_eqNat ?_⟩
  · have e : ((2 ^ k : Nat) : Int) = (2 : Int) ^ k := by rw [Int.natCast_pow]; rfl
    omega
  · rw [h]; omega
theorem own_modN (x : Int32) (d : Nat) (h0 : 0 < d) (hd : d < 2 ^ 31) : ∃ n : Nat, n < d ∧ (x &&& 2147483647) % Int32.ofNat d = Int32.ofNat n := by
  have h := Jvm.Kit.i32_mask x 2147483647 (k := 31) (by decide) (by decide)
  have h1 := Int.emod_nonneg x.toInt (show (2 : Int) ^ 31 ≠ 0 by decide)
  have e := Jvm.Kit.i32_rem_nonneg (x := x &&& 2147483647) (y := Int32.ofNat d) (by rw [h]; exact h1)
  rw [own_nat hd] at e
  have h2 := Int.emod_nonneg (x &&& 2147483647).toInt (show (d : Int) ≠ 0 by omega)
  have h3 := Int.emod_lt_of_pos (x &&& 2147483647).toInt (show (0 : Int) < d by omega)
  exact ⟨((x &&& 2147483647).toInt % d).toNat, by omega, own_eqNat (by rw [e]; omega)⟩
theorem own_lt {i n : Nat} (hi : i < 2 ^ 31) (hn : n < 2 ^ 31) : Int32.ofNat i < Int32.ofNat n ↔ i < n := by
  rw [Int32.lt_iff_toInt_lt, own_nat hi, own_nat hn]; omega
theorem own_inj {i n : Nat} (hi : i < 2 ^ 31) (hn : n < 2 ^ 31) : Int32.ofNat i = Int32.ofNat n ↔ i = n := by
  rw [← Int32.toInt_inj, own_nat hi, own_nat hn]; omega
theorem own_add {i n : Nat} (h : i + n < 2 ^ 31) : Int32.ofNat i + Int32.ofNat n = Int32.ofNat (i + n) :=
  own_eqNat (by rw [Jvm.Kit.i32_add (by rw [own_nat (by omega), own_nat (by omega)]; omega) (by rw [own_nat (by omega), own_nat (by omega)]; omega), own_nat (by omega), own_nat (by omega)]; omega)
end Jvm.RoadKit
namespace Jvm.RoadKit
open Sem ClassFile Op Lib Jvm.Stand Jvm.Free Jvm.LawKit
section Switch
variable {p : Program} {l : Launch} {e : Env} {R : Room} {s : State} {m : MethodId} {args : Array Value} {below : List Frame} {meth : Method} {c : Code} {T : State} {locs : List Loc} {cells slots : Nat}
theorem own_lswH (X : Stand p l e R s m args below meth c T locs cells slots) (hx : p.tables.exec = Jvm.exec) {g : JFrame} (hg : g.method = m) {k : Int32} {rest : List Value} {pc0 pc' : Nat} (hpc : g.pc = pc0)
    (hs : g.stack = .int k :: rest) {dflt : Int} {pairs : Array (Int × Int)} {len : Nat} (hd : decode c.code g.pc = .ok (.lookupswitch dflt pairs, len))
    (hsorted : (pairs.toList.zip (pairs.toList.drop 1)).all (fun (a, next) => a.1 < next.1) = true) {a off : Int} (hfind : pairs.find? (·.1 == k.toInt) = some (a, off)) (ho : 0 ≤ (pc0 : Int) + off) (hp : ((pc0 : Int) + off).toNat = pc')
    (target : State) (hr : Steps p.tables e below (T.setTop { g with pc := pc', stack := rest }) target) : Steps p.tables e below (T.setTop g) target := by
  subst hpc hp
  exact X.lookupswitchHit hx hg hs hd hsorted hfind ho target hr
theorem own_lswM (X : Stand p l e R s m args below meth c T locs cells slots) (hx : p.tables.exec = Jvm.exec) {g : JFrame} (hg : g.method = m) {k : Int32} {rest : List Value} {pc0 pc' : Nat} (hpc : g.pc = pc0)
    (hs : g.stack = .int k :: rest) {dflt : Int} {pairs : Array (Int × Int)} {len : Nat} (hd : decode c.code g.pc = .ok (.lookupswitch dflt pairs, len))
    (hsorted : (pairs.toList.zip (pairs.toList.drop 1)).all (fun (a, next) => a.1 < next.1) = true) (hfind : ∀ q ∈ pairs.toList, q.1 ≠ k.toInt) (ho : 0 ≤ (pc0 : Int) + dflt) (hp : ((pc0 : Int) + dflt).toNat = pc')
    (target : State) (hr : Steps p.tables e below (T.setTop { g with pc := pc', stack := rest }) target) : Steps p.tables e below (T.setTop g) target := by
  subst hpc hp
  exact X.lookupswitchMiss hx hg hs hd hsorted (find_miss hfind) ho target hr
theorem own_nk {x y : Int32} {z : Int} (hz : y.toInt = z) (h : ¬ x = y) : z ≠ x.toInt := fun q => h (Int32.toInt_inj.mp (q.symm.trans hz.symm))
end Switch
end Jvm.RoadKit
namespace Jvm.RoadKit
open Sem ClassFile Op Lib Jvm.Stand Jvm.Free Jvm.LawKit
section Statics
variable {Z : State} {args : Array Value} {C n d K : String} {t : Term} {a : Addr}
theorem own_sta (h : (Cond.exactly (.static C n d) K).value args Z none Z [] = some true) (hi : (Cond.initialized C).before args Z = true) (hl : (Cond.laysStatic C n d).before args Z = true) : ∃ a, (Term.static C n d).eval args Z none [] Z = some (.ref a) ∧ Sta Z Z.heap C n d (.ref a) ∧ Exa Z Z.heap a K := by
  obtain ⟨a, e⟩ := exa_v h
  exact ⟨a, e, Sta.start e (Or.inr ⟨hi, hl⟩), Exa.start e h⟩
theorem own_stfI {k : Int32} (e : t.eval args Z none [] Z = some (.ref a)) (h : (Cond.eq (.field t C n d) (.int k)).value args Z none Z [] = some true) : Fld Z Z.heap a C n d (.int k) := by
  apply Fld.start
  simp only [Cond.value, Term.eval, e, Option.bind_eq_bind, Option.bind_some] at h
  cases hf : Z.fieldOf? a C n d with
  | none => simp [hf] at h
  | some x => cases x <;> simp [hf] at h ⊢; exact h
theorem own_stfJ {k : Int64} (e : t.eval args Z none [] Z = some (.ref a)) (h : (Cond.eq (.field t C n d) (.long k)).value args Z none Z [] = some true) : Fld Z Z.heap a C n d (.long k) := by
  apply Fld.start
  simp only [Cond.value, Term.eval, e, Option.bind_eq_bind, Option.bind_some] at h
  cases hf : Z.fieldOf? a C n d with
  | none => simp [hf] at h
  | some x => cases x <;> simp [hf] at h ⊢; exact h
end Statics
end Jvm.RoadKit
namespace Jvm.RoadKit
open Sem ClassFile Op Lib Jvm.Stand Jvm.Free Jvm.LawKit
theorem own_lrem {tb : Tables} [Ours tb] {e : Env} {below : List Frame} {T target : State} {m : MethodId} {c : Code} {g : JFrame} (h : At T m c below) (hx : tb.exec = Jvm.exec) (hg : g.method = m) {x y : Int64} {rest : List Value} (hd : decode c.code g.pc = .ok (.lrem, 1)) (hs : g.stack = .long y :: .long x :: rest) (hy : y ≠ 0)
    (hr : Steps tb e below (T.setTop { g with pc := g.pc + 1, stack := .long (x % y) :: rest }) target) : Steps tb e below (T.setTop g) target :=
  XS.lrem h hx hg hd hs hy (by rw [lrem_mod]; exact hr)
theorem own_irem_mod (x y : Int32) : x - (x / y) * y = x % y := by
  apply Int32.toInt_inj.mp
  have h1 := Int32.le_toInt (x % y)
  have h2 := Int32.toInt_lt (x % y)
  rw [Int32.toInt_sub, Int32.toInt_mul, Int32.toInt_div, Int.bmod_mul_bmod, Int.sub_bmod_bmod, Int.mul_comm (x.toInt.tdiv y.toInt), ← Int.tmod_def, ← Int32.toInt_mod]
  exact Int.bmod_eq_of_le_mul_two (by omega) (by omega)
theorem own_irem {tb : Tables} [Ours tb] {e : Env} {below : List Frame} {T target : State} {m : MethodId} {c : Code} {g : JFrame} (h : At T m c below) (hx : tb.exec = Jvm.exec) (hg : g.method = m) {x y : Int32} {rest : List Value} (hd : decode c.code g.pc = .ok (.irem, 1)) (hs : g.stack = .int y :: .int x :: rest) (hy : y ≠ 0)
    (hr : Steps tb e below (T.setTop { g with pc := g.pc + 1, stack := .int (x % y) :: rest }) target) : Steps tb e below (T.setTop g) target :=
  XS.irem h hx hg hd hs hy (by rw [own_irem_mod]; exact hr)
theorem own_div1 (x : Int64) : x / 1 = x := Int64.toInt_inj.mp (by
  rw [Jvm.Kit.i64_div (fun q => by have := q.2; revert this; decide)]
  show x.toInt.tdiv 1 = x.toInt
  exact Int.tdiv_one _)
end Jvm.RoadKit
namespace Jvm.RoadKit
open Sem ClassFile Op Lib Jvm.Stand Jvm.Free Jvm.LawKit
theorem own_kx {h h' : Heap} (K : Keep h h' []) : Ext h h' := ⟨K.1, fun a c q => K.2.1 a c q nin0⟩
section Unlike
variable {Z : State} {a0 : Array Value}
theorem own_nsroot {O K : String} {n : Nat} (w : (Cond.noSuperclass O).before a0 Z = true) (wk : (Cond.instantiable K n).before a0 Z = true) (hn : O ≠ K) : NS Z O K := by
  obtain ⟨c, k, h1, h2, h3, -, -⟩ := Cond.noSuperclass_spec w
  obtain ⟨t, k', g1, g2, -⟩ := Cond.instantiable_spec wk
  have ne := ids_ne h1 g1 hn
  refine ⟨c, t, h1, g1, fun fuel => ?_⟩
  cases fuel with
  | zero => rfl
  | succ f => simp [Vm.isSubclassAux, ne, h2, h3]
theorem own_nsno {C S K : String} {n : Nat} (w : (Cond.superclass C S).before a0 Z = true) (wk : (Cond.instantiable K n).before a0 Z = true) (N : NS Z C K) (hn : C ≠ K) : ∃ c t, Z.vm.findClass C = some c ∧ Z.vm.findClass K = some t ∧ Z.vm.assignable c t = false := by
  obtain ⟨c, t, h0, g0, n3⟩ := N
  obtain ⟨p, k, kp, h1, h2, h3, h4, h5, -, h7⟩ := Cond.superclass_spec h0 w
  obtain ⟨t', k', g1, g2, g3, g4, -⟩ := Cond.instantiable_spec wk
  cases g0.symm.trans g1
  have g7 : k'.isInterface = false := by
    cases hq : k'.isInterface with
    | false => rfl
    | true => rw [hq] at g4; simp at g4
  have ne := ids_ne h0 g0 hn
  refine ⟨c, t, h0, g0, ?_⟩
  show Z.vm.assignableAux (255 + 1) c t = false
  simp [Vm.assignableAux, ne, h2, g2, h5, g3, g7, Vm.isSubclass, n3]
end Unlike
end Jvm.RoadKit
namespace Jvm.RoadKit
open Sem ClassFile Op Lib Jvm.Stand Jvm.Free Jvm.LawKit
section Clone
variable {p : Program} {l : Launch} {e : Env} {R : Room} {s : State} {m : MethodId} {args : Array Value} {below : List Frame} {meth : Method} {c : Code} {T : State} {locs : List Loc} {cells slots : Nat} {Z : State} {a0 : Array Value} {h : Heap} {a : Addr} {ty : FieldType} {n : Nat} {f : Nat → Int32}
theorem own_clone (X : Stand p l e R s m args below meth c T locs cells slots) (hx : p.tables.exec = Jvm.exec) (hZ : Z.Warmed39 s.vm) {own ad : String} {index : Nat} (hown : s.vm.findClass own = some m.cls)
    (w1 : (Cond.methodLink own index ⟨ad, "clone", "()Ljava/lang/Object;"⟩).before a0 Z = true) (w2 : (Cond.sameMethod ad "java/lang/Object" "clone" "()Ljava/lang/Object;").before a0 Z = true) (w3 : (Cond.native ⟨"java/lang/Object", "clone", "()Ljava/lang/Object;"⟩).before a0 Z = true)
    (w4 : (Cond.instanceMethod ⟨"java/lang/Object", "clone", "()Ljava/lang/Object;"⟩).before a0 Z = true) (w5 : (Cond.selects ad ⟨ad, "clone", "()Ljava/lang/Object;"⟩ ⟨"java/lang/Object", "clone", "()Ljava/lang/Object;"⟩).before a0 Z = true) (w6 : (Cond.castable ad "java/lang/Cloneable").before a0 Z = true)
    (eT : T.heap = h) (A : IA Z h a ty n f) (E : Exa Z h a ad) {g : JFrame} (hg : g.method = m) (hsize : g.locals.size = c.maxLocals) {rest : List Value} (hs : g.stack = .ref a :: rest) (hd : decode c.code g.pc = .ok (.invokevirtual index, 3))
    (hf : 1 ≤ R.frames) {W cap : Nat} (hW : 2 * g.monitorRoom + (rest.map fun v => v.category).sum ≤ W) (hl : W + 14 ≤ R.locals) (hcap : n ≤ cap) (hc : cells + 1 ≤ R.cells) (hsl : slots + cap ≤ R.slots) :
    ∃ T' h', Stand p l e R s m args below meth c T' locs (cells + 1) (slots + cap) ∧ T'.heap = h' ∧ Ext h h' ∧ IA Z h' h.size ty n f ∧ Exa Z h' h.size ad ∧
      ∀ target, Steps p.tables e below (T'.setTop { g with pc := g.pc + 3, stack := .ref h.size :: rest }) target → Steps p.tables e below (T.setTop g) target := by
  obtain ⟨cl, A, S, M, H⟩ := A
  have FC : FitC Z cl := fitC_of A fun i hi v hv => by
    rw [S] at hi
    rw [(H i hi).1] at hv
    cases hv
    exact (H i hi).2
  obtain ⟨T', h', X', e', ex, A', E', st⟩ := cloneA X hx hZ hown w1 w2 w3 w4 w5 w6 eT A E FC hg hsize hs hd hf hW hl (by rw [S]; exact hcap) hc hsl
  exact ⟨T', h', X', e', ex, ⟨cloneOf cl, A', S, M, H⟩, E', st⟩
end Clone
theorem own_sub {i n : Nat} (h : n ≤ i) (hi : i < 2 ^ 31) : Int32.ofNat i - Int32.ofNat n = Int32.ofNat (i - n) :=
  own_eqNat (by rw [Jvm.Kit.i32_sub (by rw [own_nat (by omega), own_nat (by omega)]; omega) (by rw [own_nat (by omega), own_nat (by omega)]; omega), own_nat (by omega), own_nat (by omega)]; omega)
end Jvm.RoadKit
namespace Jvm.RoadKit
open Sem ClassFile Op Lib Jvm.Stand Jvm.Free Jvm.LawKit
theorem own_stak {Z : State} {h h' : Heap} {C n d D : String} {v : Value} {a : Addr} (F : Sta Z h C n d v) (K : Keep h h' [a]) (E : Exa Z h a D) : Sta Z h' C n d v := by
  obtain ⟨cf, i, k, f, st, cell, h1, h2, h3, h4, h5, h6, h7⟩ := F
  obtain ⟨cell', k', e1, -, -, e4, -⟩ := E
  have ne : st ≠ a := fun q => by
    subst q
    cases h5.symm.trans e1
    rw [e4] at h6
    cases h6
  exact ⟨cf, i, k, f, st, cell, h1, h2, h3, h4, K.2.1 _ _ h5 (ninS ne nin0), h6, h7⟩
end Jvm.RoadKit
namespace Jvm.Pilot.@@N@@
open Jvm Jvm.ClassFile Sem Op Lib Jvm.Free Jvm.Stand Jvm.LawKit Jvm.RoadKit Bundle Jvm.Pilot.@@N@@.Jvm.D
theorem pd_0 : parseMethodDescriptor "([ZII)V" = some ⟨[(.array .boolean), .int, .int], none⟩ := by decide +kernel
theorem pd_1 : parseMethodDescriptor "([Z)Z" = some ⟨[(.array .boolean)], some .boolean⟩ := by decide +kernel
theorem pd_2 : parseMethodDescriptor "([ZII)Z" = some ⟨[(.array .boolean), .int, .int], some .boolean⟩ := by decide +kernel
theorem d1_0 : decode method_3_code 0 = .ok (.iload_n 1, 1) := by decide +kernel
theorem d1_1 : decode method_3_code 1 = .ok (.aload_n 0, 1) := by decide +kernel
theorem d1_2 : decode method_3_code 2 = .ok (.arraylength, 1) := by decide +kernel
theorem d1_3 : decode method_3_code 3 = .ok (.if_icmp .ge 19, 3) := by decide +kernel
theorem d1_6 : decode method_3_code 6 = .ok (.aload_n 0, 1) := by decide +kernel
theorem d1_7 : decode method_3_code 7 = .ok (.iload_n 1, 1) := by decide +kernel
theorem d1_8 : decode method_3_code 8 = .ok (.iload_n 2, 1) := by decide +kernel
theorem d1_9 : decode method_3_code 9 = .ok (.iload_n 1, 1) := by decide +kernel
theorem d1_10 : decode method_3_code 10 = .ok (.ishr, 1) := by decide +kernel
theorem d1_11 : decode method_3_code 11 = .ok (.iconst 1, 1) := by decide +kernel
theorem d1_12 : decode method_3_code 12 = .ok (.iand, 1) := by decide +kernel
theorem d1_13 : decode method_3_code 13 = .ok (.ifCond .eq 7, 3) := by decide +kernel
theorem d1_16 : decode method_3_code 16 = .ok (.iconst 1, 1) := by decide +kernel
theorem d1_17 : decode method_3_code 17 = .ok (.goto 4, 3) := by decide +kernel
theorem d1_20 : decode method_3_code 20 = .ok (.iconst 0, 1) := by decide +kernel
theorem d1_21 : decode method_3_code 21 = .ok (.bastore, 1) := by decide +kernel
theorem d1_22 : decode method_3_code 22 = .ok (.return_, 1) := by decide +kernel
theorem pn_1 : plainName "com/example/surety/surety/DecompositionAdvancePinLaw" = true := by first | (simp [plainName, overriddenIn]; done) | decide +kernel
theorem ef_rm1a (m : MethodId) (x0 : Addr) (x1 : Int32) (x2 : Int32) : entryFrame m #[(.ref x0), (.int x1), (.int x2)] 3 = mkF m 0 #[.val (.ref x0), .val (.int x1), .val (.int x2)] [] := by first | (simp [entryFrame, mkF, argsToLocals, Value.category]; done) | rfl
def Q_rm1a (Z : State) (r0 : Addr) (p1 : Int32) (p2 : Int32) (n_r0 : Nat) (v_r0 : Nat → Int32) (kn : Nat) (h0 : Heap) (n0 : Nat) (v : Option Value) (h : Heap) (L : List Loc) : Prop := v = none ∧ Fr n0 L ∧ Keep h0 h [r0] ∧ IA Z h r0 .boolean n_r0 (own_upd v_r0 kn (nar .boolean (if ((p2 >>> (p1 &&& 31)) &&& (1 : Int32)) = (0 : Int32) then (0 : Int32) else (1 : Int32))))
set_option maxRecDepth 65536 in
set_option maxHeartbeats 40000000 in
theorem rm1a (l : Launch) (Z : State) (a0 : Array Value) (hw : ∀ d ∈ tables_1, d.before a0 Z = true) (ws : List Jvm.Cond) (r0 : Addr) (p1 : Int32) (p2 : Int32) (n_r0 : Nat) (v_r0 : Nat → Int32) (kn : Nat) (h0 : Heap) (n0 : Nat) (Z0 : n0 ≤ h0.size) (A_r0 : IA Z h0 r0 .boolean n_r0 v_r0) (g_r0 : n0 ≤ r0) (hk : p1 = Int32.ofNat kn) (hlt : kn < n_r0) :
    MetFree l (⟨"com/example/surety/surety/DecompositionAdvancePinLaw", "set", "([ZII)V"⟩ : MethodName) (head1 (Jvm.Cond.code (⟨"com/example/surety/surety/DecompositionAdvancePinLaw", "set", "([ZII)V"⟩ : MethodName) method_3_code 3 none :: ws) ({ frames := 0, cells := 0, slots := 0, locals := 0 } : Room)) (fun a U => a = #[(.ref r0), (.int p1), (.int p2)] ∧ Z.Warmed39 U.vm ∧ U.heap = h0) (fun _ _ _ _ _ => True) (fun _ U o U' => ∃ v L, o = .returned v ∧ Q_rm1a Z r0 p1 p2 n_r0 v_r0 kn h0 n0 v U'.heap L ∧ FrameEnd U o U' L ({ frames := 0, cells := 0, slots := 0, locals := 0 } : Room).cells ({ frames := 0, cells := 0, slots := 0, locals := 0 } : Room).slots) := by
  refine MetFree.of_bodySF (plainFor_of_name pn_1) hisR ?_
  intro p e s m args below meth c s₁ Bd hml0 hP hK
  obtain ⟨rfl, hZ, hh⟩ := hP
  have hx := Bd.exec
  have hby := Bd.bytes
  have hml : c.maxLocals = 3 := hml0
  have hown : s.vm.findClass "com/example/surety/surety/DecompositionAdvancePinLaw" = some m.cls := findClass_of_methodNamed Bd.named
  have hnm := (name_of_methodNamed Bd.named Bd.method).1
  have hlk : meth.locks = false := BodyLoose.notSynchronized Bd
  have X0 : Stand p l e ({ frames := 0, cells := 0, slots := 0, locals := 0 } : Room) s m #[(.ref r0), (.int p1), (.int p2)] below meth c s₁ [] 0 0 := Stand.of_body Bd
  have e0 : s₁.heap = h0 := by rw [← hh, Bd.state]; rfl
  have N0 := Fr.nil n0
  have K0 : Keep h0 h0 [r0] := Keep.refl _ _
  show Goes p e below s (Q_rm1a Z r0 p1 p2 n_r0 v_r0 kn h0 n0) ({ frames := 0, cells := 0, slots := 0, locals := 0 } : Room).cells ({ frames := 0, cells := 0, slots := 0, locals := 0 } : Room).slots (s₁.setTop (entryFrame m #[(.ref r0), (.int p1), (.int p2)] 3))
  rw [ef_rm1a]
  show Goes p e below s _ _ _ (s₁.setTop (mkF m 0 #[.val (.ref r0), .val (.int p1), .val (.int p2)] []))
  refine Goes.go (fun _ kst => XS.iloadN X0.here hx rfl (hb hby d1_0) rfl  kst) ?_
  show Goes p e below s _ _ _ (s₁.setTop (mkF m 1 #[.val (.ref r0), .val (.int p1), .val (.int p2)] [(.int p1)]))
  refine Goes.go (fun _ kst => XS.aloadN X0.here hx rfl (hb hby d1_1) rfl rfl  kst) ?_
  show Goes p e below s _ _ _ (s₁.setTop (mkF m 2 #[.val (.ref r0), .val (.int p1), .val (.int p2)] [(.ref r0), (.int p1)]))
  refine Goes.go (own_len X0 hx hZ e0 A_r0 (g := (mkF m 2 #[.val (.ref r0), .val (.int p1), .val (.int p2)] [(.ref r0), (.int p1)])) rfl rfl (hb hby d1_2)) ?_
  show Goes p e below s _ _ _ (s₁.setTop (mkF m 3 #[.val (.ref r0), .val (.int p1), .val (.int p2)] [(.int (Int32.ofNat n_r0)), (.int p1)]))
  have hc3_1 : p1 < (Int32.ofNat n_r0) := by rw [hk]; exact (own_lt (by have := A_r0.bound; omega) A_r0.bound).mpr hlt
  refine Goes.go (fun _ kst => XS.icmpNo X0.here hx rfl (hb hby d1_3) rfl (tlt hc3_1).2.1 kst) ?_
  show Goes p e below s _ _ _ (s₁.setTop (mkF m 6 #[.val (.ref r0), .val (.int p1), .val (.int p2)] []))
  refine Goes.go (fun _ kst => XS.aloadN X0.here hx rfl (hb hby d1_6) rfl rfl  kst) ?_
  show Goes p e below s _ _ _ (s₁.setTop (mkF m 7 #[.val (.ref r0), .val (.int p1), .val (.int p2)] [(.ref r0)]))
  refine Goes.go (fun _ kst => XS.iloadN X0.here hx rfl (hb hby d1_7) rfl  kst) ?_
  show Goes p e below s _ _ _ (s₁.setTop (mkF m 8 #[.val (.ref r0), .val (.int p1), .val (.int p2)] [(.int p1), (.ref r0)]))
  refine Goes.go (fun _ kst => XS.iloadN X0.here hx rfl (hb hby d1_8) rfl  kst) ?_
  show Goes p e below s _ _ _ (s₁.setTop (mkF m 9 #[.val (.ref r0), .val (.int p1), .val (.int p2)] [(.int p2), (.int p1), (.ref r0)]))
  refine Goes.go (fun _ kst => XS.iloadN X0.here hx rfl (hb hby d1_9) rfl  kst) ?_
  show Goes p e below s _ _ _ (s₁.setTop (mkF m 10 #[.val (.ref r0), .val (.int p1), .val (.int p2)] [(.int p1), (.int p2), (.int p1), (.ref r0)]))
  refine Goes.go (fun _ kst => XS.ishr X0.here hx rfl (hb hby d1_10) rfl kst) ?_
  show Goes p e below s _ _ _ (s₁.setTop (mkF m 11 #[.val (.ref r0), .val (.int p1), .val (.int p2)] [(.int (p2 >>> (p1 &&& 31))), (.int p1), (.ref r0)]))
  refine Goes.go (fun _ kst => XS.iconst X0.here hx rfl (hb hby d1_11) kst) ?_
  show Goes p e below s _ _ _ (s₁.setTop (mkF m 12 #[.val (.ref r0), .val (.int p1), .val (.int p2)] [(.int (1 : Int32)), (.int (p2 >>> (p1 &&& 31))), (.int p1), (.ref r0)]))
  refine Goes.go (fun _ kst => XS.iand X0.here hx rfl (hb hby d1_12) rfl kst) ?_
  show Goes p e below s _ _ _ (s₁.setTop (mkF m 13 #[.val (.ref r0), .val (.int p1), .val (.int p2)] [(.int ((p2 >>> (p1 &&& 31)) &&& (1 : Int32))), (.int p1), (.ref r0)]))
  obtain ⟨z2_s0, hz2_s0⟩ : ∃ z : Int32, z = if ((p2 >>> (p1 &&& 31)) &&& (1 : Int32)) = (0 : Int32) then (0 : Int32) else (1 : Int32) := ⟨_, rfl⟩
  have sm2 : ∀ t, Steps p.tables e below (s₁.setTop (mkF m 21 #[.val (.ref r0), .val (.int p1), .val (.int p2)] [(.int z2_s0), (.int p1), (.ref r0)])) t → Steps p.tables e below (s₁.setTop (mkF m 13 #[.val (.ref r0), .val (.int p1), .val (.int p2)] [(.int ((p2 >>> (p1 &&& 31)) &&& (1 : Int32))), (.int p1), (.ref r0)])) t := by
    intro t kst
    by_cases hc13_2 : ((p2 >>> (p1 &&& 31)) &&& (1 : Int32)) = (0 : Int32)
    · have kst2 : Steps p.tables e below (s₁.setTop (mkF m 21 #[.val (.ref r0), .val (.int p1), .val (.int p2)] [(.int (0 : Int32)), (.int p1), (.ref r0)])) t := by simpa only [hz2_s0, if_pos hc13_2] using kst
      show Steps p.tables e below (s₁.setTop (mkF m 13 #[.val (.ref r0), .val (.int p1), .val (.int p2)] [(.int ((p2 >>> (p1 &&& 31)) &&& (1 : Int32))), (.int p1), (.ref r0)])) _
      refine XS.ifYes X0.here hx rfl (pc0 := 13) (pc' := 20) rfl (hb hby d1_13) rfl ((if0 _ _).trans (teq hc13_2).1) (by decide) (by decide) ?_
      show Steps p.tables e below (s₁.setTop (mkF m 20 #[.val (.ref r0), .val (.int p1), .val (.int p2)] [(.int p1), (.ref r0)])) _
      refine XS.iconst X0.here hx rfl (hb hby d1_20) ?_
      exact kst2
    · have kst2 : Steps p.tables e below (s₁.setTop (mkF m 21 #[.val (.ref r0), .val (.int p1), .val (.int p2)] [(.int (1 : Int32)), (.int p1), (.ref r0)])) t := by simpa only [hz2_s0, if_neg hc13_2] using kst
      show Steps p.tables e below (s₁.setTop (mkF m 13 #[.val (.ref r0), .val (.int p1), .val (.int p2)] [(.int ((p2 >>> (p1 &&& 31)) &&& (1 : Int32))), (.int p1), (.ref r0)])) _
      refine XS.ifNo X0.here hx rfl (hb hby d1_13) rfl ((if0 _ _).trans (feq hc13_2).1) ?_
      show Steps p.tables e below (s₁.setTop (mkF m 16 #[.val (.ref r0), .val (.int p1), .val (.int p2)] [(.int p1), (.ref r0)])) _
      refine XS.iconst X0.here hx rfl (hb hby d1_16) ?_
      show Steps p.tables e below (s₁.setTop (mkF m 17 #[.val (.ref r0), .val (.int p1), .val (.int p2)] [(.int (1 : Int32)), (.int p1), (.ref r0)])) _
      refine XS.goto X0.here hx rfl (pc0 := 17) (pc' := 21) rfl (hb hby d1_17) (by decide) (by decide) ?_
      exact kst2
  refine Goes.go sm2 ?_
  show Goes p e below s _ _ _ (s₁.setTop (mkF m 21 #[.val (.ref r0), .val (.int p1), .val (.int p2)] [(.int z2_s0), (.int p1), (.ref r0)]))
  obtain ⟨T3, h3, X3, e3, W3, A3, st3⟩ := own_stZ X0 hx hZ e0 A_r0 (i := kn) hk hlt (g := (mkF m 21 #[.val (.ref r0), .val (.int p1), .val (.int p2)] [(.int z2_s0), (.int p1), (.ref r0)])) rfl rfl (hb hby d1_21)
  have N3 := Fr.snoc X3 N0 g_r0
  have Z3 := Nat.le_trans Z0 (Keep.of_wr W3).1
  have K3 := Keep.wr K0 W3 (Or.inl (List.mem_of_getElem? (i := 0) rfl))
  refine Goes.go st3 ?_
  show Goes p e below s _ _ _ (T3.setTop (mkF m 22 #[.val (.ref r0), .val (.int p1), .val (.int p2)] []))
  refine Goes.ret0 X3 hx hlk Bd.returns (hb hby d1_22) ?_ (by decide) (by decide)
  exact (show Q_rm1a Z r0 p1 p2 n_r0 v_r0 kn h0 n0 _ T3.heap _ by rw [e3]; exact ⟨rfl, N3, K3, (by subst hz2_s0; exact A3)⟩)
theorem ef_rm1b (m : MethodId) (x0 : Addr) (x1 : Int32) (x2 : Int32) : entryFrame m #[(.ref x0), (.int x1), (.int x2)] 3 = mkF m 0 #[.val (.ref x0), .val (.int x1), .val (.int x2)] [] := by first | (simp [entryFrame, mkF, argsToLocals, Value.category]; done) | rfl
set_option maxRecDepth 65536 in
set_option maxHeartbeats 40000000 in
theorem rm1b (l : Launch) (Z : State) (a0 : Array Value) (hw : ∀ d ∈ tables_1, d.before a0 Z = true) (ws : List Jvm.Cond) (r0 : Addr) (p1 : Int32) (p2 : Int32) (n_r0 : Nat) (v_r0 : Nat → Int32) (kn : Nat) (h0 : Heap) (n0 : Nat) (Z0 : n0 ≤ h0.size) (A_r0 : IA Z h0 r0 .boolean n_r0 v_r0) (g_r0 : n0 ≤ r0) (hk : p1 = Int32.ofNat kn) (hlt : ¬ (kn < n_r0)) (hkb : kn < 2 ^ 31) :
    MetFree l (⟨"com/example/surety/surety/DecompositionAdvancePinLaw", "set", "([ZII)V"⟩ : MethodName) (head1 (Jvm.Cond.code (⟨"com/example/surety/surety/DecompositionAdvancePinLaw", "set", "([ZII)V"⟩ : MethodName) method_3_code 3 none :: ws) ({ frames := 0, cells := 0, slots := 0, locals := 0 } : Room)) (fun a U => a = #[(.ref r0), (.int p1), (.int p2)] ∧ Z.Warmed39 U.vm ∧ U.heap = h0) (fun _ _ _ _ _ => True) (fun _ U o U' => ∃ v L, o = .returned v ∧ Qn h0 n0 v U'.heap L ∧ FrameEnd U o U' L ({ frames := 0, cells := 0, slots := 0, locals := 0 } : Room).cells ({ frames := 0, cells := 0, slots := 0, locals := 0 } : Room).slots) := by
  refine MetFree.of_bodySF (plainFor_of_name pn_1) hisR ?_
  intro p e s m args below meth c s₁ Bd hml0 hP hK
  obtain ⟨rfl, hZ, hh⟩ := hP
  have hx := Bd.exec
  have hby := Bd.bytes
  have hml : c.maxLocals = 3 := hml0
  have hown : s.vm.findClass "com/example/surety/surety/DecompositionAdvancePinLaw" = some m.cls := findClass_of_methodNamed Bd.named
  have hnm := (name_of_methodNamed Bd.named Bd.method).1
  have hlk : meth.locks = false := BodyLoose.notSynchronized Bd
  have X0 : Stand p l e ({ frames := 0, cells := 0, slots := 0, locals := 0 } : Room) s m #[(.ref r0), (.int p1), (.int p2)] below meth c s₁ [] 0 0 := Stand.of_body Bd
  have e0 : s₁.heap = h0 := by rw [← hh, Bd.state]; rfl
  have N0 := Fr.nil n0
  have K0 : Keep h0 h0 [] := Keep.refl _ _
  show Goes p e below s (Qn h0 n0) ({ frames := 0, cells := 0, slots := 0, locals := 0 } : Room).cells ({ frames := 0, cells := 0, slots := 0, locals := 0 } : Room).slots (s₁.setTop (entryFrame m #[(.ref r0), (.int p1), (.int p2)] 3))
  rw [ef_rm1b]
  show Goes p e below s _ _ _ (s₁.setTop (mkF m 0 #[.val (.ref r0), .val (.int p1), .val (.int p2)] []))
  refine Goes.go (fun _ kst => XS.iloadN X0.here hx rfl (hb hby d1_0) rfl  kst) ?_
  show Goes p e below s _ _ _ (s₁.setTop (mkF m 1 #[.val (.ref r0), .val (.int p1), .val (.int p2)] [(.int p1)]))
  refine Goes.go (fun _ kst => XS.aloadN X0.here hx rfl (hb hby d1_1) rfl rfl  kst) ?_
  show Goes p e below s _ _ _ (s₁.setTop (mkF m 2 #[.val (.ref r0), .val (.int p1), .val (.int p2)] [(.ref r0), (.int p1)]))
  refine Goes.go (own_len X0 hx hZ e0 A_r0 (g := (mkF m 2 #[.val (.ref r0), .val (.int p1), .val (.int p2)] [(.ref r0), (.int p1)])) rfl rfl (hb hby d1_2)) ?_
  show Goes p e below s _ _ _ (s₁.setTop (mkF m 3 #[.val (.ref r0), .val (.int p1), .val (.int p2)] [(.int (Int32.ofNat n_r0)), (.int p1)]))
  have hc3_1 : ¬ (p1 < (Int32.ofNat n_r0)) := by rw [hk]; exact fun q => hlt ((own_lt hkb A_r0.bound).mp q)
  refine Goes.go (fun _ kst => XS.icmpYes X0.here hx rfl (pc0 := 3) (pc' := 22) rfl (hb hby d1_3) rfl (flt hc3_1).2.1 (by decide) (by decide) kst) ?_
  show Goes p e below s _ _ _ (s₁.setTop (mkF m 22 #[.val (.ref r0), .val (.int p1), .val (.int p2)] []))
  refine Goes.ret0 X0 hx hlk Bd.returns (hb hby d1_22) ?_ (by decide) (by decide)
  exact ⟨rfl, N0, e0⟩
theorem d3_0 : decode method_4_code 0 = .ok (.iload_n 1, 1) := by decide +kernel
theorem d3_1 : decode method_4_code 1 = .ok (.aload_n 0, 1) := by decide +kernel
theorem d3_2 : decode method_4_code 2 = .ok (.arraylength, 1) := by decide +kernel
theorem d3_3 : decode method_4_code 3 = .ok (.if_icmp .lt 5, 3) := by decide +kernel
theorem d3_6 : decode method_4_code 6 = .ok (.iconst 1, 1) := by decide +kernel
theorem d3_7 : decode method_4_code 7 = .ok (.ireturn, 1) := by decide +kernel
theorem d3_8 : decode method_4_code 8 = .ok (.aload_n 0, 1) := by decide +kernel
theorem d3_9 : decode method_4_code 9 = .ok (.iload_n 1, 1) := by decide +kernel
theorem d3_10 : decode method_4_code 10 = .ok (.baload, 1) := by decide +kernel
theorem d3_11 : decode method_4_code 11 = .ok (.iload_n 2, 1) := by decide +kernel
theorem d3_12 : decode method_4_code 12 = .ok (.iload_n 1, 1) := by decide +kernel
theorem d3_13 : decode method_4_code 13 = .ok (.ishr, 1) := by decide +kernel
theorem d3_14 : decode method_4_code 14 = .ok (.iconst 1, 1) := by decide +kernel
theorem d3_15 : decode method_4_code 15 = .ok (.iand, 1) := by decide +kernel
theorem d3_16 : decode method_4_code 16 = .ok (.ifCond .eq 7, 3) := by decide +kernel
theorem d3_19 : decode method_4_code 19 = .ok (.iconst 1, 1) := by decide +kernel
theorem d3_20 : decode method_4_code 20 = .ok (.goto 4, 3) := by decide +kernel
theorem d3_23 : decode method_4_code 23 = .ok (.iconst 0, 1) := by decide +kernel
theorem d3_24 : decode method_4_code 24 = .ok (.if_icmp .ne 7, 3) := by decide +kernel
theorem d3_27 : decode method_4_code 27 = .ok (.iconst 1, 1) := by decide +kernel
theorem d3_28 : decode method_4_code 28 = .ok (.goto 4, 3) := by decide +kernel
theorem d3_31 : decode method_4_code 31 = .ok (.iconst 0, 1) := by decide +kernel
theorem d3_32 : decode method_4_code 32 = .ok (.ireturn, 1) := by decide +kernel
theorem pn_3 : plainName "com/example/surety/surety/DecompositionAdvancePinLaw" = true := by first | (simp [plainName, overriddenIn]; done) | decide +kernel
theorem ef_rm3 (m : MethodId) (x0 : Addr) (x1 : Int32) (x2 : Int32) : entryFrame m #[(.ref x0), (.int x1), (.int x2)] 3 = mkF m 0 #[.val (.ref x0), .val (.int x1), .val (.int x2)] [] := by first | (simp [entryFrame, mkF, argsToLocals, Value.category]; done) | rfl
def f3 (r0 : Addr) (p1 : Int32) (p2 : Int32) (n_r0 : Nat) (v_r0 : Nat → Int32) (kn : Nat) : Int32 := (if p1 < (Int32.ofNat n_r0) then (nar .boolean (if (v_r0 kn) = (if ((p2 >>> (p1 &&& 31)) &&& (1 : Int32)) = (0 : Int32) then (0 : Int32) else (1 : Int32)) then (1 : Int32) else (0 : Int32))) else (1 : Int32))
set_option maxRecDepth 65536 in
set_option maxHeartbeats 40000000 in
theorem rm3 (l : Launch) (Z : State) (a0 : Array Value) (hw : ∀ d ∈ tables_1, d.before a0 Z = true) (ws : List Jvm.Cond) (r0 : Addr) (p1 : Int32) (p2 : Int32) (n_r0 : Nat) (v_r0 : Nat → Int32) (kn : Nat) (h0 : Heap) (n0 : Nat) (Z0 : n0 ≤ h0.size) (A_r0 : IA Z h0 r0 .boolean n_r0 v_r0) (hk : p1 = Int32.ofNat kn) (hkb : kn < 2 ^ 31) :
    MetFree l (⟨"com/example/surety/surety/DecompositionAdvancePinLaw", "same", "([ZII)Z"⟩ : MethodName) (head1 (Jvm.Cond.code (⟨"com/example/surety/surety/DecompositionAdvancePinLaw", "same", "([ZII)Z"⟩ : MethodName) method_4_code 3 (some .boolean) :: ws) ({ frames := 0, cells := 0, slots := 0, locals := 0 } : Room)) (fun a U => a = #[(.ref r0), (.int p1), (.int p2)] ∧ Z.Warmed39 U.vm ∧ U.heap = h0) (fun _ _ _ _ _ => True) (fun _ U o U' => ∃ v L, o = .returned v ∧ Qp (.int (f3 r0 p1 p2 n_r0 v_r0 kn)) h0 n0 v U'.heap L ∧ FrameEnd U o U' L ({ frames := 0, cells := 0, slots := 0, locals := 0 } : Room).cells ({ frames := 0, cells := 0, slots := 0, locals := 0 } : Room).slots) := by
  refine MetFree.of_bodySF (plainFor_of_name pn_3) hisR ?_
  intro p e s m args below meth c s₁ Bd hml0 hP hK
  obtain ⟨rfl, hZ, hh⟩ := hP
  have hx := Bd.exec
  have hby := Bd.bytes
  have hml : c.maxLocals = 3 := hml0
  have hown : s.vm.findClass "com/example/surety/surety/DecompositionAdvancePinLaw" = some m.cls := findClass_of_methodNamed Bd.named
  have hnm := (name_of_methodNamed Bd.named Bd.method).1
  have hlk : meth.locks = false := BodyLoose.notSynchronized Bd
  have X0 : Stand p l e ({ frames := 0, cells := 0, slots := 0, locals := 0 } : Room) s m #[(.ref r0), (.int p1), (.int p2)] below meth c s₁ [] 0 0 := Stand.of_body Bd
  have e0 : s₁.heap = h0 := by rw [← hh, Bd.state]; rfl
  have N0 := Fr.nil n0
  have K0 : Keep h0 h0 [] := Keep.refl _ _
  show Goes p e below s (Qp (.int (f3 r0 p1 p2 n_r0 v_r0 kn)) h0 n0) ({ frames := 0, cells := 0, slots := 0, locals := 0 } : Room).cells ({ frames := 0, cells := 0, slots := 0, locals := 0 } : Room).slots (s₁.setTop (entryFrame m #[(.ref r0), (.int p1), (.int p2)] 3))
  rw [ef_rm3]
  show Goes p e below s _ _ _ (s₁.setTop (mkF m 0 #[.val (.ref r0), .val (.int p1), .val (.int p2)] []))
  refine Goes.go (fun _ kst => XS.iloadN X0.here hx rfl (hb hby d3_0) rfl  kst) ?_
  show Goes p e below s _ _ _ (s₁.setTop (mkF m 1 #[.val (.ref r0), .val (.int p1), .val (.int p2)] [(.int p1)]))
  refine Goes.go (fun _ kst => XS.aloadN X0.here hx rfl (hb hby d3_1) rfl rfl  kst) ?_
  show Goes p e below s _ _ _ (s₁.setTop (mkF m 2 #[.val (.ref r0), .val (.int p1), .val (.int p2)] [(.ref r0), (.int p1)]))
  refine Goes.go (own_len X0 hx hZ e0 A_r0 (g := (mkF m 2 #[.val (.ref r0), .val (.int p1), .val (.int p2)] [(.ref r0), (.int p1)])) rfl rfl (hb hby d3_2)) ?_
  show Goes p e below s _ _ _ (s₁.setTop (mkF m 3 #[.val (.ref r0), .val (.int p1), .val (.int p2)] [(.int (Int32.ofNat n_r0)), (.int p1)]))
  by_cases hc3_1 : p1 < (Int32.ofNat n_r0)
  · skip
    refine Goes.qi (if_pos hc3_1) ?_
    refine Goes.go (fun _ kst => XS.icmpYes X0.here hx rfl (pc0 := 3) (pc' := 8) rfl (hb hby d3_3) rfl (tlt hc3_1).1 (by decide) (by decide) kst) ?_
    show Goes p e below s _ _ _ (s₁.setTop (mkF m 8 #[.val (.ref r0), .val (.int p1), .val (.int p2)] []))
    refine Goes.go (fun _ kst => XS.aloadN X0.here hx rfl (hb hby d3_8) rfl rfl  kst) ?_
    show Goes p e below s _ _ _ (s₁.setTop (mkF m 9 #[.val (.ref r0), .val (.int p1), .val (.int p2)] [(.ref r0)]))
    refine Goes.go (fun _ kst => XS.iloadN X0.here hx rfl (hb hby d3_9) rfl  kst) ?_
    show Goes p e below s _ _ _ (s₁.setTop (mkF m 10 #[.val (.ref r0), .val (.int p1), .val (.int p2)] [(.int p1), (.ref r0)]))
    refine Goes.go (own_ldZ X0 hx hZ e0 A_r0 (i := kn) hk (by rw [hk] at hc3_1; exact (own_lt hkb A_r0.bound).mp hc3_1) (g := (mkF m 10 #[.val (.ref r0), .val (.int p1), .val (.int p2)] [(.int p1), (.ref r0)])) rfl rfl (hb hby d3_10)) ?_
    show Goes p e below s _ _ _ (s₁.setTop (mkF m 11 #[.val (.ref r0), .val (.int p1), .val (.int p2)] [(.int (v_r0 kn))]))
    refine Goes.go (fun _ kst => XS.iloadN X0.here hx rfl (hb hby d3_11) rfl  kst) ?_
    show Goes p e below s _ _ _ (s₁.setTop (mkF m 12 #[.val (.ref r0), .val (.int p1), .val (.int p2)] [(.int p2), (.int (v_r0 kn))]))
    refine Goes.go (fun _ kst => XS.iloadN X0.here hx rfl (hb hby d3_12) rfl  kst) ?_
    show Goes p e below s _ _ _ (s₁.setTop (mkF m 13 #[.val (.ref r0), .val (.int p1), .val (.int p2)] [(.int p1), (.int p2), (.int (v_r0 kn))]))
    refine Goes.go (fun _ kst => XS.ishr X0.here hx rfl (hb hby d3_13) rfl kst) ?_
    show Goes p e below s _ _ _ (s₁.setTop (mkF m 14 #[.val (.ref r0), .val (.int p1), .val (.int p2)] [(.int (p2 >>> (p1 &&& 31))), (.int (v_r0 kn))]))
    refine Goes.go (fun _ kst => XS.iconst X0.here hx rfl (hb hby d3_14) kst) ?_
    show Goes p e below s _ _ _ (s₁.setTop (mkF m 15 #[.val (.ref r0), .val (.int p1), .val (.int p2)] [(.int (1 : Int32)), (.int (p2 >>> (p1 &&& 31))), (.int (v_r0 kn))]))
    refine Goes.go (fun _ kst => XS.iand X0.here hx rfl (hb hby d3_15) rfl kst) ?_
    show Goes p e below s _ _ _ (s₁.setTop (mkF m 16 #[.val (.ref r0), .val (.int p1), .val (.int p2)] [(.int ((p2 >>> (p1 &&& 31)) &&& (1 : Int32))), (.int (v_r0 kn))]))
    obtain ⟨z2_s0, hz2_s0⟩ : ∃ z : Int32, z = if ((p2 >>> (p1 &&& 31)) &&& (1 : Int32)) = (0 : Int32) then (0 : Int32) else (1 : Int32) := ⟨_, rfl⟩
    have sm2 : ∀ t, Steps p.tables e below (s₁.setTop (mkF m 24 #[.val (.ref r0), .val (.int p1), .val (.int p2)] [(.int z2_s0), (.int (v_r0 kn))])) t → Steps p.tables e below (s₁.setTop (mkF m 16 #[.val (.ref r0), .val (.int p1), .val (.int p2)] [(.int ((p2 >>> (p1 &&& 31)) &&& (1 : Int32))), (.int (v_r0 kn))])) t := by
      intro t kst
      by_cases hc16_2 : ((p2 >>> (p1 &&& 31)) &&& (1 : Int32)) = (0 : Int32)
      · have kst2 : Steps p.tables e below (s₁.setTop (mkF m 24 #[.val (.ref r0), .val (.int p1), .val (.int p2)] [(.int (0 : Int32)), (.int (v_r0 kn))])) t := by simpa only [hz2_s0, if_pos hc16_2] using kst
        show Steps p.tables e below (s₁.setTop (mkF m 16 #[.val (.ref r0), .val (.int p1), .val (.int p2)] [(.int ((p2 >>> (p1 &&& 31)) &&& (1 : Int32))), (.int (v_r0 kn))])) _
        refine XS.ifYes X0.here hx rfl (pc0 := 16) (pc' := 23) rfl (hb hby d3_16) rfl ((if0 _ _).trans (teq hc16_2).1) (by decide) (by decide) ?_
        show Steps p.tables e below (s₁.setTop (mkF m 23 #[.val (.ref r0), .val (.int p1), .val (.int p2)] [(.int (v_r0 kn))])) _
        refine XS.iconst X0.here hx rfl (hb hby d3_23) ?_
        exact kst2
      · have kst2 : Steps p.tables e below (s₁.setTop (mkF m 24 #[.val (.ref r0), .val (.int p1), .val (.int p2)] [(.int (1 : Int32)), (.int (v_r0 kn))])) t := by simpa only [hz2_s0, if_neg hc16_2] using kst
        show Steps p.tables e below (s₁.setTop (mkF m 16 #[.val (.ref r0), .val (.int p1), .val (.int p2)] [(.int ((p2 >>> (p1 &&& 31)) &&& (1 : Int32))), (.int (v_r0 kn))])) _
        refine XS.ifNo X0.here hx rfl (hb hby d3_16) rfl ((if0 _ _).trans (feq hc16_2).1) ?_
        show Steps p.tables e below (s₁.setTop (mkF m 19 #[.val (.ref r0), .val (.int p1), .val (.int p2)] [(.int (v_r0 kn))])) _
        refine XS.iconst X0.here hx rfl (hb hby d3_19) ?_
        show Steps p.tables e below (s₁.setTop (mkF m 20 #[.val (.ref r0), .val (.int p1), .val (.int p2)] [(.int (1 : Int32)), (.int (v_r0 kn))])) _
        refine XS.goto X0.here hx rfl (pc0 := 20) (pc' := 24) rfl (hb hby d3_20) (by decide) (by decide) ?_
        exact kst2
    refine Goes.go sm2 ?_
    show Goes p e below s _ _ _ (s₁.setTop (mkF m 24 #[.val (.ref r0), .val (.int p1), .val (.int p2)] [(.int z2_s0), (.int (v_r0 kn))]))
    obtain ⟨z3_s0, hz3_s0⟩ : ∃ z : Int32, z = if (v_r0 kn) = z2_s0 then (1 : Int32) else (0 : Int32) := ⟨_, rfl⟩
    have sm3 : ∀ t, Steps p.tables e below (s₁.setTop (mkF m 32 #[.val (.ref r0), .val (.int p1), .val (.int p2)] [(.int z3_s0)])) t → Steps p.tables e below (s₁.setTop (mkF m 24 #[.val (.ref r0), .val (.int p1), .val (.int p2)] [(.int z2_s0), (.int (v_r0 kn))])) t := by
      intro t kst
      by_cases hc24_3 : (v_r0 kn) = z2_s0
      · have kst2 : Steps p.tables e below (s₁.setTop (mkF m 32 #[.val (.ref r0), .val (.int p1), .val (.int p2)] [(.int (1 : Int32))])) t := by simpa only [hz3_s0, if_pos hc24_3] using kst
        show Steps p.tables e below (s₁.setTop (mkF m 24 #[.val (.ref r0), .val (.int p1), .val (.int p2)] [(.int z2_s0), (.int (v_r0 kn))])) _
        refine XS.icmpNo X0.here hx rfl (hb hby d3_24) rfl (teq hc24_3).2 ?_
        show Steps p.tables e below (s₁.setTop (mkF m 27 #[.val (.ref r0), .val (.int p1), .val (.int p2)] [])) _
        refine XS.iconst X0.here hx rfl (hb hby d3_27) ?_
        show Steps p.tables e below (s₁.setTop (mkF m 28 #[.val (.ref r0), .val (.int p1), .val (.int p2)] [(.int (1 : Int32))])) _
        refine XS.goto X0.here hx rfl (pc0 := 28) (pc' := 32) rfl (hb hby d3_28) (by decide) (by decide) ?_
        exact kst2
      · have kst2 : Steps p.tables e below (s₁.setTop (mkF m 32 #[.val (.ref r0), .val (.int p1), .val (.int p2)] [(.int (0 : Int32))])) t := by simpa only [hz3_s0, if_neg hc24_3] using kst
        show Steps p.tables e below (s₁.setTop (mkF m 24 #[.val (.ref r0), .val (.int p1), .val (.int p2)] [(.int z2_s0), (.int (v_r0 kn))])) _
        refine XS.icmpYes X0.here hx rfl (pc0 := 24) (pc' := 31) rfl (hb hby d3_24) rfl (feq hc24_3).2 (by decide) (by decide) ?_
        show Steps p.tables e below (s₁.setTop (mkF m 31 #[.val (.ref r0), .val (.int p1), .val (.int p2)] [])) _
        refine XS.iconst X0.here hx rfl (hb hby d3_31) ?_
        exact kst2
    refine Goes.go sm3 ?_
    show Goes p e below s _ _ _ (s₁.setTop (mkF m 32 #[.val (.ref r0), .val (.int p1), .val (.int p2)] [(.int z3_s0)]))
    refine Goes.retN .boolean X0 hx hlk Bd.returns (by simp) (hb hby d3_32) ?_ (by decide) (by decide)
    exact ⟨by subst hz3_s0; subst hz2_s0; rfl, N0, e0⟩
  · skip
    refine Goes.qi (if_neg hc3_1) ?_
    refine Goes.go (fun _ kst => XS.icmpNo X0.here hx rfl (hb hby d3_3) rfl (flt hc3_1).1 kst) ?_
    show Goes p e below s _ _ _ (s₁.setTop (mkF m 6 #[.val (.ref r0), .val (.int p1), .val (.int p2)] []))
    refine Goes.go (fun _ kst => XS.iconst X0.here hx rfl (hb hby d3_6) kst) ?_
    show Goes p e below s _ _ _ (s₁.setTop (mkF m 7 #[.val (.ref r0), .val (.int p1), .val (.int p2)] [(.int (1 : Int32))]))
    refine Goes.retN .boolean X0 hx hlk Bd.returns (by simp) (hb hby d3_7) ?_ (by decide) (by decide)
    exact ⟨by rfl, N0, e0⟩
def own_fz (v : Nat → Int32) : Nat → Nat → Nat
  | 0, i => i
  | k + 1, i => if v i = (0 : Int32) then i else own_fz v k (i + 1)
def own_all (w : Nat → Int32) : Nat → Nat → Int32
  | 0, _ => 0
  | k + 1, i => if w i = (0 : Int32) then 1 else own_all w k (i + 1)
def own_cut (v : Nat → Int32) (i : Nat) : Nat → Int32 := fun j => if j < i then 0 else v j
def own_W (v : Nat → Int32) (n : Nat) : Nat → Int32 := own_upd (own_cut v (own_fz v n 0)) (own_fz v n 0) 1
def Q_rm2 (Z : State) (r0 : Addr) (n : Nat) (v : Nat → Int32) (h0 : Heap) (n0 : Nat) (x : Option Value) (h : Heap) (L : List Loc) : Prop := x = some (.int (own_all (own_W v n) n 0)) ∧ Fr n0 L ∧ Keep h0 h [r0] ∧ IA Z h r0 .boolean n (own_W v n)
theorem own_step {v : Nat → Int32} {i : Nat} (j : Nat) : own_upd (own_cut v i) i (nar .boolean (0 : Int32)) j = own_cut v (i + 1) j := by
  unfold own_upd own_cut
  by_cases h : j = i
  · subst h
    rw [if_pos rfl, if_pos (Nat.lt_succ_self _)]
    rfl
  · rw [if_neg h]
    by_cases h2 : j < i
    · rw [if_pos h2, if_pos (by omega)]
    · rw [if_neg h2, if_neg (by omega)]
theorem d2_0 : decode prog_56_method_15_code 0 = .ok (.iconst 0, 1) := by decide +kernel
theorem d2_1 : decode prog_56_method_15_code 1 = .ok (.istore_n 1, 1) := by decide +kernel
theorem d2_2 : decode prog_56_method_15_code 2 = .ok (.aload_n 0, 1) := by decide +kernel
theorem d2_3 : decode prog_56_method_15_code 3 = .ok (.iload_n 1, 1) := by decide +kernel
theorem d2_4 : decode prog_56_method_15_code 4 = .ok (.baload, 1) := by decide +kernel
theorem d2_5 : decode prog_56_method_15_code 5 = .ok (.ifCond .eq 13, 3) := by decide +kernel
theorem d2_8 : decode prog_56_method_15_code 8 = .ok (.aload_n 0, 1) := by decide +kernel
theorem d2_9 : decode prog_56_method_15_code 9 = .ok (.iload_n 1, 1) := by decide +kernel
theorem d2_10 : decode prog_56_method_15_code 10 = .ok (.iconst 0, 1) := by decide +kernel
theorem d2_11 : decode prog_56_method_15_code 11 = .ok (.bastore, 1) := by decide +kernel
theorem d2_12 : decode prog_56_method_15_code 12 = .ok (.iinc 1 1, 3) := by decide +kernel
theorem d2_15 : decode prog_56_method_15_code 15 = .ok (.goto (-13), 3) := by decide +kernel
theorem d2_18 : decode prog_56_method_15_code 18 = .ok (.aload_n 0, 1) := by decide +kernel
theorem d2_19 : decode prog_56_method_15_code 19 = .ok (.iload_n 1, 1) := by decide +kernel
theorem d2_20 : decode prog_56_method_15_code 20 = .ok (.iconst 1, 1) := by decide +kernel
theorem d2_21 : decode prog_56_method_15_code 21 = .ok (.bastore, 1) := by decide +kernel
theorem d2_22 : decode prog_56_method_15_code 22 = .ok (.aload_n 0, 1) := by decide +kernel
theorem d2_23 : decode prog_56_method_15_code 23 = .ok (.astore_n 2, 1) := by decide +kernel
theorem d2_24 : decode prog_56_method_15_code 24 = .ok (.aload_n 2, 1) := by decide +kernel
theorem d2_25 : decode prog_56_method_15_code 25 = .ok (.arraylength, 1) := by decide +kernel
theorem d2_26 : decode prog_56_method_15_code 26 = .ok (.istore_n 3, 1) := by decide +kernel
theorem d2_27 : decode prog_56_method_15_code 27 = .ok (.iconst 0, 1) := by decide +kernel
theorem d2_28 : decode prog_56_method_15_code 28 = .ok (.istore 4, 2) := by decide +kernel
theorem d2_30 : decode prog_56_method_15_code 30 = .ok (.iload 4, 2) := by decide +kernel
theorem d2_32 : decode prog_56_method_15_code 32 = .ok (.iload_n 3, 1) := by decide +kernel
theorem d2_33 : decode prog_56_method_15_code 33 = .ok (.if_icmp .ge 22, 3) := by decide +kernel
theorem d2_36 : decode prog_56_method_15_code 36 = .ok (.aload_n 2, 1) := by decide +kernel
theorem d2_37 : decode prog_56_method_15_code 37 = .ok (.iload 4, 2) := by decide +kernel
theorem d2_39 : decode prog_56_method_15_code 39 = .ok (.baload, 1) := by decide +kernel
theorem d2_40 : decode prog_56_method_15_code 40 = .ok (.istore 5, 2) := by decide +kernel
theorem d2_42 : decode prog_56_method_15_code 42 = .ok (.iload 5, 2) := by decide +kernel
theorem d2_44 : decode prog_56_method_15_code 44 = .ok (.ifCond .ne 5, 3) := by decide +kernel
theorem d2_47 : decode prog_56_method_15_code 47 = .ok (.iconst 1, 1) := by decide +kernel
theorem d2_48 : decode prog_56_method_15_code 48 = .ok (.ireturn, 1) := by decide +kernel
theorem d2_49 : decode prog_56_method_15_code 49 = .ok (.iinc 4 1, 3) := by decide +kernel
theorem d2_52 : decode prog_56_method_15_code 52 = .ok (.goto (-22), 3) := by decide +kernel
theorem d2_55 : decode prog_56_method_15_code 55 = .ok (.iconst 0, 1) := by decide +kernel
theorem d2_56 : decode prog_56_method_15_code 56 = .ok (.ireturn, 1) := by decide +kernel
theorem pn_2 : plainName "com/example/surety/surety/Decomposition" = true := by first | (simp [plainName, overriddenIn]; done) | decide +kernel
theorem ef_rm2 (m : MethodId) (x0 : Addr) : entryFrame m #[(.ref x0)] 6 = mkF m 0 #[.val (.ref x0), .unset, .unset, .unset, .unset, .unset] [] := by first | (simp [entryFrame, mkF, argsToLocals, Value.category]; done) | rfl
set_option maxRecDepth 65536 in
set_option maxHeartbeats 40000000 in
theorem rm2 (l : Launch) (Z : State) (a0 : Array Value) (hw : ∀ d ∈ tables_1, d.before a0 Z = true) (ws : List Jvm.Cond) (r0 : Addr) (n_r0 : Nat) (v_r0 : Nat → Int32) (h0 : Heap) (n0 : Nat) (Z0 : n0 ≤ h0.size) (A_r0 : IA Z h0 r0 .boolean n_r0 v_r0) (g_r0 : n0 ≤ r0) (hfz : own_fz v_r0 n_r0 0 < n_r0) :
    MetFree l (⟨"com/example/surety/surety/Decomposition", "advance", "([Z)Z"⟩ : MethodName) (head1 (Jvm.Cond.code (⟨"com/example/surety/surety/Decomposition", "advance", "([Z)Z"⟩ : MethodName) prog_56_method_15_code 6 (some .boolean) :: ws) ({ frames := 0, cells := 0, slots := 0, locals := 0 } : Room)) (fun a U => a = #[(.ref r0)] ∧ Z.Warmed39 U.vm ∧ U.heap = h0) (fun _ _ _ _ _ => True) (fun _ U o U' => ∃ v L, o = .returned v ∧ Q_rm2 Z r0 n_r0 v_r0 h0 n0 v U'.heap L ∧ FrameEnd U o U' L ({ frames := 0, cells := 0, slots := 0, locals := 0 } : Room).cells ({ frames := 0, cells := 0, slots := 0, locals := 0 } : Room).slots) := by
  refine MetFree.of_bodySF (plainFor_of_name pn_2) hisR ?_
  intro p e s m args below meth c s₁ Bd hml0 hP hK
  obtain ⟨rfl, hZ, hh⟩ := hP
  have hx := Bd.exec
  have hby := Bd.bytes
  have hml : c.maxLocals = 6 := hml0
  have hown : s.vm.findClass "com/example/surety/surety/Decomposition" = some m.cls := findClass_of_methodNamed Bd.named
  have hnm := (name_of_methodNamed Bd.named Bd.method).1
  have hlk : meth.locks = false := BodyLoose.notSynchronized Bd
  have X0 : Stand p l e ({ frames := 0, cells := 0, slots := 0, locals := 0 } : Room) s m #[(.ref r0)] below meth c s₁ [] 0 0 := Stand.of_body Bd
  have e0 : s₁.heap = h0 := by rw [← hh, Bd.state]; rfl
  have N0 := Fr.nil n0
  have K0 : Keep h0 h0 [r0] := Keep.refl _ _
  show Goes p e below s (Q_rm2 Z r0 n_r0 v_r0 h0 n0) ({ frames := 0, cells := 0, slots := 0, locals := 0 } : Room).cells ({ frames := 0, cells := 0, slots := 0, locals := 0 } : Room).slots (s₁.setTop (entryFrame m #[(.ref r0)] 6))
  rw [ef_rm2]
  have hn31 := A_r0.bound
  obtain ⟨W, hW⟩ : ∃ f, f = own_W v_r0 n_r0 := ⟨_, rfl⟩
  have LP2 : ∀ (k i : Nat) (s1 s5 : Slot) {TJ : State} {lj : List Loc} {hJ : Heap} (XJ : Stand p l e ({ frames := 0, cells := 0, slots := 0, locals := 0 } : Room) s m #[(.ref r0)] below meth c TJ lj 0 0) (eJ : TJ.heap = hJ) (NJ : Fr n0 lj) (ZJ : n0 ≤ hJ.size) (KJ : Keep h0 hJ [r0]) (AJ : IA Z hJ r0 .boolean n_r0 W) (hs5 : One s5) (hk : i + k = n_r0) (hv : own_all W k i = own_all W n_r0 0), Goes p e below s (Q_rm2 Z r0 n_r0 v_r0 h0 n0) ({ frames := 0, cells := 0, slots := 0, locals := 0 } : Room).cells ({ frames := 0, cells := 0, slots := 0, locals := 0 } : Room).slots (TJ.setTop (mkF m 30 #[.val (.ref r0), s1, .val (.ref r0), .val (.int (Int32.ofNat n_r0)), .val (.int (Int32.ofNat i)), s5] [])) := by
    intro k
    induction k with
    | zero =>
      intro i s1 s5 TJ lj hJ XJ eJ NJ ZJ KJ AJ hs5 hk hv
      subst hW
      show Goes p e below s _ _ _ (TJ.setTop (mkF m 30 #[.val (.ref r0), s1, .val (.ref r0), .val (.int (Int32.ofNat n_r0)), .val (.int (Int32.ofNat i)), s5] []))
      refine Goes.go (fun _ kst => XS.iload XJ.here hx rfl (hb hby d2_30) rfl  kst) ?_
      show Goes p e below s _ _ _ (TJ.setTop (mkF m 32 #[.val (.ref r0), s1, .val (.ref r0), .val (.int (Int32.ofNat n_r0)), .val (.int (Int32.ofNat i)), s5] [(.int (Int32.ofNat i))]))
      refine Goes.go (fun _ kst => XS.iloadN XJ.here hx rfl (hb hby d2_32) rfl  kst) ?_
      show Goes p e below s _ _ _ (TJ.setTop (mkF m 33 #[.val (.ref r0), s1, .val (.ref r0), .val (.int (Int32.ofNat n_r0)), .val (.int (Int32.ofNat i)), s5] [(.int (Int32.ofNat n_r0)), (.int (Int32.ofNat i))]))
      have hc33_1 : ¬ ((Int32.ofNat i) < (Int32.ofNat n_r0)) := fun q => by have := (own_lt (by omega) (by omega)).mp q; omega
      refine Goes.go (fun _ kst => XS.icmpYes XJ.here hx rfl (pc0 := 33) (pc' := 55) rfl (hb hby d2_33) rfl (flt hc33_1).2.1 (by decide) (by decide) kst) ?_
      show Goes p e below s _ _ _ (TJ.setTop (mkF m 55 #[.val (.ref r0), s1, .val (.ref r0), .val (.int (Int32.ofNat n_r0)), .val (.int (Int32.ofNat i)), s5] []))
      refine Goes.go (fun _ kst => XS.iconst XJ.here hx rfl (hb hby d2_55) kst) ?_
      show Goes p e below s _ _ _ (TJ.setTop (mkF m 56 #[.val (.ref r0), s1, .val (.ref r0), .val (.int (Int32.ofNat n_r0)), .val (.int (Int32.ofNat i)), s5] [(.int (0 : Int32))]))
      refine Goes.retN .boolean XJ hx hlk Bd.returns (by simp) (hb hby d2_56) ?_ (by decide) (by decide)
      exact (show Q_rm2 Z r0 n_r0 v_r0 h0 n0 _ TJ.heap _ by rw [eJ]; exact ⟨by rw [← hv]; rfl, NJ, KJ, AJ⟩)
    | succ k ih =>
      intro i s1 s5 TJ lj hJ XJ eJ NJ ZJ KJ AJ hs5 hk hv
      show Goes p e below s _ _ _ (TJ.setTop (mkF m 30 #[.val (.ref r0), s1, .val (.ref r0), .val (.int (Int32.ofNat n_r0)), .val (.int (Int32.ofNat i)), s5] []))
      refine Goes.go (fun _ kst => XS.iload XJ.here hx rfl (hb hby d2_30) rfl  kst) ?_
      show Goes p e below s _ _ _ (TJ.setTop (mkF m 32 #[.val (.ref r0), s1, .val (.ref r0), .val (.int (Int32.ofNat n_r0)), .val (.int (Int32.ofNat i)), s5] [(.int (Int32.ofNat i))]))
      refine Goes.go (fun _ kst => XS.iloadN XJ.here hx rfl (hb hby d2_32) rfl  kst) ?_
      show Goes p e below s _ _ _ (TJ.setTop (mkF m 33 #[.val (.ref r0), s1, .val (.ref r0), .val (.int (Int32.ofNat n_r0)), .val (.int (Int32.ofNat i)), s5] [(.int (Int32.ofNat n_r0)), (.int (Int32.ofNat i))]))
      have hc33_2 : (Int32.ofNat i) < (Int32.ofNat n_r0) := (own_lt (by omega) (by omega)).mpr (by omega)
      refine Goes.go (fun _ kst => XS.icmpNo XJ.here hx rfl (hb hby d2_33) rfl (tlt hc33_2).2.1 kst) ?_
      show Goes p e below s _ _ _ (TJ.setTop (mkF m 36 #[.val (.ref r0), s1, .val (.ref r0), .val (.int (Int32.ofNat n_r0)), .val (.int (Int32.ofNat i)), s5] []))
      refine Goes.go (fun _ kst => XS.aloadN XJ.here hx rfl (hb hby d2_36) rfl rfl  kst) ?_
      show Goes p e below s _ _ _ (TJ.setTop (mkF m 37 #[.val (.ref r0), s1, .val (.ref r0), .val (.int (Int32.ofNat n_r0)), .val (.int (Int32.ofNat i)), s5] [(.ref r0)]))
      refine Goes.go (fun _ kst => XS.iload XJ.here hx rfl (hb hby d2_37) rfl  kst) ?_
      show Goes p e below s _ _ _ (TJ.setTop (mkF m 39 #[.val (.ref r0), s1, .val (.ref r0), .val (.int (Int32.ofNat n_r0)), .val (.int (Int32.ofNat i)), s5] [(.int (Int32.ofNat i)), (.ref r0)]))
      refine Goes.go (own_ldZ XJ hx hZ eJ AJ (i := i) rfl (by omega) (g := (mkF m 39 #[.val (.ref r0), s1, .val (.ref r0), .val (.int (Int32.ofNat n_r0)), .val (.int (Int32.ofNat i)), s5] [(.int (Int32.ofNat i)), (.ref r0)])) rfl rfl (hb hby d2_39)) ?_
      show Goes p e below s _ _ _ (TJ.setTop (mkF m 40 #[.val (.ref r0), s1, .val (.ref r0), .val (.int (Int32.ofNat n_r0)), .val (.int (Int32.ofNat i)), s5] [(.int (W i))]))
      refine Goes.go (fun _ kst => XS.istore XJ.here hx rfl (hb hby d2_40) rfl (l' := #[.val (.ref r0), s1, .val (.ref r0), .val (.int (Int32.ofNat n_r0)), .val (.int (Int32.ofNat i)), .val (.int (W i))]) (XS.store1 rfl hs5 rfl) kst) ?_
      show Goes p e below s _ _ _ (TJ.setTop (mkF m 42 #[.val (.ref r0), s1, .val (.ref r0), .val (.int (Int32.ofNat n_r0)), .val (.int (Int32.ofNat i)), .val (.int (W i))] []))
      refine Goes.go (fun _ kst => XS.iload XJ.here hx rfl (hb hby d2_42) rfl  kst) ?_
      show Goes p e below s _ _ _ (TJ.setTop (mkF m 44 #[.val (.ref r0), s1, .val (.ref r0), .val (.int (Int32.ofNat n_r0)), .val (.int (Int32.ofNat i)), .val (.int (W i))] [(.int (W i))]))
      by_cases hc44_3 : (W i) = (0 : Int32)
      · skip
        refine Goes.go (fun _ kst => XS.ifNo XJ.here hx rfl (hb hby d2_44) rfl ((if0 _ _).trans (teq hc44_3).2) kst) ?_
        show Goes p e below s _ _ _ (TJ.setTop (mkF m 47 #[.val (.ref r0), s1, .val (.ref r0), .val (.int (Int32.ofNat n_r0)), .val (.int (Int32.ofNat i)), .val (.int (W i))] []))
        refine Goes.go (fun _ kst => XS.iconst XJ.here hx rfl (hb hby d2_47) kst) ?_
        show Goes p e below s _ _ _ (TJ.setTop (mkF m 48 #[.val (.ref r0), s1, .val (.ref r0), .val (.int (Int32.ofNat n_r0)), .val (.int (Int32.ofNat i)), .val (.int (W i))] [(.int (1 : Int32))]))
        refine Goes.retN .boolean XJ hx hlk Bd.returns (by simp) (hb hby d2_48) ?_ (by decide) (by decide)
        exact (show Q_rm2 Z r0 n_r0 v_r0 h0 n0 _ TJ.heap _ by rw [eJ]; exact ⟨by subst hW; rw [← hv]; simp only [own_all]; rw [if_pos hc44_3]; rfl, NJ, KJ, hW ▸ AJ⟩)
      · skip
        refine Goes.go (fun _ kst => XS.ifYes XJ.here hx rfl (pc0 := 44) (pc' := 49) rfl (hb hby d2_44) rfl ((if0 _ _).trans (feq hc44_3).2) (by decide) (by decide) kst) ?_
        show Goes p e below s _ _ _ (TJ.setTop (mkF m 49 #[.val (.ref r0), s1, .val (.ref r0), .val (.int (Int32.ofNat n_r0)), .val (.int (Int32.ofNat i)), .val (.int (W i))] []))
        refine Goes.go (fun _ kst => XS.iinc XJ.here hx rfl (hb hby d2_49) rfl (l' := #[.val (.ref r0), s1, .val (.ref r0), .val (.int (Int32.ofNat n_r0)), .val (.int ((Int32.ofNat i) + (1 : Int32))), .val (.int (W i))]) rfl kst) ?_
        rw [show (Int32.ofNat i + (1 : Int32)) = Int32.ofNat (i + 1) from own_add (n := 1) (by omega)]
        show Goes p e below s _ _ _ (TJ.setTop (mkF m 52 #[.val (.ref r0), s1, .val (.ref r0), .val (.int (Int32.ofNat n_r0)), .val (.int (Int32.ofNat (i + 1))), .val (.int (W i))] []))
        refine Goes.go (fun _ kst => XS.goto XJ.here hx rfl (pc0 := 52) (pc' := 30) rfl (hb hby d2_52) (by decide) (by decide) kst) ?_
        exact ih (i + 1) _ _ XJ eJ NJ ZJ KJ AJ (One.val rfl) (by omega) (by rw [← hv]; simp only [own_all]; rw [if_neg hc44_3])
  have LP1 : ∀ (k i : Nat) {TJ : State} {lj : List Loc} {hJ : Heap} (XJ : Stand p l e ({ frames := 0, cells := 0, slots := 0, locals := 0 } : Room) s m #[(.ref r0)] below meth c TJ lj 0 0) (eJ : TJ.heap = hJ) (NJ : Fr n0 lj) (ZJ : n0 ≤ hJ.size) (KJ : Keep h0 hJ [r0]) (AJ : IA Z hJ r0 .boolean n_r0 (own_cut v_r0 i)) (hk : i + k = n_r0) (hv : own_fz v_r0 k i = own_fz v_r0 n_r0 0), Goes p e below s (Q_rm2 Z r0 n_r0 v_r0 h0 n0) ({ frames := 0, cells := 0, slots := 0, locals := 0 } : Room).cells ({ frames := 0, cells := 0, slots := 0, locals := 0 } : Room).slots (TJ.setTop (mkF m 2 #[.val (.ref r0), .val (.int (Int32.ofNat i)), .unset, .unset, .unset, .unset] [])) := by
    intro k
    induction k with
    | zero =>
      intro i TJ lj hJ XJ eJ NJ ZJ KJ AJ hk hv
      exact absurd hfz (by rw [← hv]; simp only [own_fz]; omega)
    | succ k ih =>
      intro i TJ lj hJ XJ eJ NJ ZJ KJ AJ hk hv
      have hci : own_cut v_r0 i i = v_r0 i := if_neg (Nat.lt_irrefl i)
      show Goes p e below s _ _ _ (TJ.setTop (mkF m 2 #[.val (.ref r0), .val (.int (Int32.ofNat i)), .unset, .unset, .unset, .unset] []))
      refine Goes.go (fun _ kst => XS.aloadN XJ.here hx rfl (hb hby d2_2) rfl rfl  kst) ?_
      show Goes p e below s _ _ _ (TJ.setTop (mkF m 3 #[.val (.ref r0), .val (.int (Int32.ofNat i)), .unset, .unset, .unset, .unset] [(.ref r0)]))
      refine Goes.go (fun _ kst => XS.iloadN XJ.here hx rfl (hb hby d2_3) rfl  kst) ?_
      show Goes p e below s _ _ _ (TJ.setTop (mkF m 4 #[.val (.ref r0), .val (.int (Int32.ofNat i)), .unset, .unset, .unset, .unset] [(.int (Int32.ofNat i)), (.ref r0)]))
      refine Goes.go (own_ldZ XJ hx hZ eJ AJ (i := i) rfl (by omega) (g := (mkF m 4 #[.val (.ref r0), .val (.int (Int32.ofNat i)), .unset, .unset, .unset, .unset] [(.int (Int32.ofNat i)), (.ref r0)])) rfl rfl (hb hby d2_4)) ?_
      rw [hci]
      show Goes p e below s _ _ _ (TJ.setTop (mkF m 5 #[.val (.ref r0), .val (.int (Int32.ofNat i)), .unset, .unset, .unset, .unset] [(.int (v_r0 i))]))
      by_cases hc5_4 : (v_r0 i) = (0 : Int32)
      · skip
        refine Goes.go (fun _ kst => XS.ifYes XJ.here hx rfl (pc0 := 5) (pc' := 18) rfl (hb hby d2_5) rfl ((if0 _ _).trans (teq hc5_4).1) (by decide) (by decide) kst) ?_
        show Goes p e below s _ _ _ (TJ.setTop (mkF m 18 #[.val (.ref r0), .val (.int (Int32.ofNat i)), .unset, .unset, .unset, .unset] []))
        refine Goes.go (fun _ kst => XS.aloadN XJ.here hx rfl (hb hby d2_18) rfl rfl  kst) ?_
        show Goes p e below s _ _ _ (TJ.setTop (mkF m 19 #[.val (.ref r0), .val (.int (Int32.ofNat i)), .unset, .unset, .unset, .unset] [(.ref r0)]))
        refine Goes.go (fun _ kst => XS.iloadN XJ.here hx rfl (hb hby d2_19) rfl  kst) ?_
        show Goes p e below s _ _ _ (TJ.setTop (mkF m 20 #[.val (.ref r0), .val (.int (Int32.ofNat i)), .unset, .unset, .unset, .unset] [(.int (Int32.ofNat i)), (.ref r0)]))
        refine Goes.go (fun _ kst => XS.iconst XJ.here hx rfl (hb hby d2_20) kst) ?_
        show Goes p e below s _ _ _ (TJ.setTop (mkF m 21 #[.val (.ref r0), .val (.int (Int32.ofNat i)), .unset, .unset, .unset, .unset] [(.int (1 : Int32)), (.int (Int32.ofNat i)), (.ref r0)]))
        obtain ⟨T5, h5, X5, e5, W5, A5, st5⟩ := own_stZ XJ hx hZ eJ AJ (i := i) rfl (by omega) (g := (mkF m 21 #[.val (.ref r0), .val (.int (Int32.ofNat i)), .unset, .unset, .unset, .unset] [(.int (1 : Int32)), (.int (Int32.ofNat i)), (.ref r0)])) rfl rfl (hb hby d2_21)
        have N5 := Fr.snoc X5 NJ g_r0
        have Z5 := Nat.le_trans ZJ (Keep.of_wr W5).1
        have K5 := Keep.wr KJ W5 (Or.inl (List.mem_of_getElem? (i := 0) rfl))
        refine Goes.go st5 ?_
        show Goes p e below s _ _ _ (T5.setTop (mkF m 22 #[.val (.ref r0), .val (.int (Int32.ofNat i)), .unset, .unset, .unset, .unset] []))
        refine Goes.go (fun _ kst => XS.aloadN X5.here hx rfl (hb hby d2_22) rfl rfl  kst) ?_
        show Goes p e below s _ _ _ (T5.setTop (mkF m 23 #[.val (.ref r0), .val (.int (Int32.ofNat i)), .unset, .unset, .unset, .unset] [(.ref r0)]))
        refine Goes.go (fun _ kst => XS.astoreN X5.here hx rfl (hb hby d2_23) rfl rfl (l' := #[.val (.ref r0), .val (.int (Int32.ofNat i)), .val (.ref r0), .unset, .unset, .unset]) rfl kst) ?_
        show Goes p e below s _ _ _ (T5.setTop (mkF m 24 #[.val (.ref r0), .val (.int (Int32.ofNat i)), .val (.ref r0), .unset, .unset, .unset] []))
        refine Goes.go (fun _ kst => XS.aloadN X5.here hx rfl (hb hby d2_24) rfl rfl  kst) ?_
        show Goes p e below s _ _ _ (T5.setTop (mkF m 25 #[.val (.ref r0), .val (.int (Int32.ofNat i)), .val (.ref r0), .unset, .unset, .unset] [(.ref r0)]))
        refine Goes.go (own_len X5 hx hZ e5 A5 (g := (mkF m 25 #[.val (.ref r0), .val (.int (Int32.ofNat i)), .val (.ref r0), .unset, .unset, .unset] [(.ref r0)])) rfl rfl (hb hby d2_25)) ?_
        show Goes p e below s _ _ _ (T5.setTop (mkF m 26 #[.val (.ref r0), .val (.int (Int32.ofNat i)), .val (.ref r0), .unset, .unset, .unset] [(.int (Int32.ofNat n_r0))]))
        refine Goes.go (fun _ kst => XS.istoreN X5.here hx rfl (hb hby d2_26) rfl (l' := #[.val (.ref r0), .val (.int (Int32.ofNat i)), .val (.ref r0), .val (.int (Int32.ofNat n_r0)), .unset, .unset]) rfl kst) ?_
        show Goes p e below s _ _ _ (T5.setTop (mkF m 27 #[.val (.ref r0), .val (.int (Int32.ofNat i)), .val (.ref r0), .val (.int (Int32.ofNat n_r0)), .unset, .unset] []))
        refine Goes.go (fun _ kst => XS.iconst X5.here hx rfl (hb hby d2_27) kst) ?_
        show Goes p e below s _ _ _ (T5.setTop (mkF m 28 #[.val (.ref r0), .val (.int (Int32.ofNat i)), .val (.ref r0), .val (.int (Int32.ofNat n_r0)), .unset, .unset] [(.int (0 : Int32))]))
        refine Goes.go (fun _ kst => XS.istore X5.here hx rfl (hb hby d2_28) rfl (l' := #[.val (.ref r0), .val (.int (Int32.ofNat i)), .val (.ref r0), .val (.int (Int32.ofNat n_r0)), .val (.int (0 : Int32)), .unset]) rfl kst) ?_
        have hi : i = own_fz v_r0 n_r0 0 := by rw [← hv]; simp only [own_fz]; rw [if_pos hc5_4]
        exact LP2 n_r0 0 _ _ X5 e5 N5 Z5 K5 (A5.as (fun j hj => by rw [hW, own_W, ← hi]; rfl)) One.u (by omega) rfl
      · skip
        refine Goes.go (fun _ kst => XS.ifNo XJ.here hx rfl (hb hby d2_5) rfl ((if0 _ _).trans (feq hc5_4).1) kst) ?_
        show Goes p e below s _ _ _ (TJ.setTop (mkF m 8 #[.val (.ref r0), .val (.int (Int32.ofNat i)), .unset, .unset, .unset, .unset] []))
        refine Goes.go (fun _ kst => XS.aloadN XJ.here hx rfl (hb hby d2_8) rfl rfl  kst) ?_
        show Goes p e below s _ _ _ (TJ.setTop (mkF m 9 #[.val (.ref r0), .val (.int (Int32.ofNat i)), .unset, .unset, .unset, .unset] [(.ref r0)]))
        refine Goes.go (fun _ kst => XS.iloadN XJ.here hx rfl (hb hby d2_9) rfl  kst) ?_
        show Goes p e below s _ _ _ (TJ.setTop (mkF m 10 #[.val (.ref r0), .val (.int (Int32.ofNat i)), .unset, .unset, .unset, .unset] [(.int (Int32.ofNat i)), (.ref r0)]))
        refine Goes.go (fun _ kst => XS.iconst XJ.here hx rfl (hb hby d2_10) kst) ?_
        show Goes p e below s _ _ _ (TJ.setTop (mkF m 11 #[.val (.ref r0), .val (.int (Int32.ofNat i)), .unset, .unset, .unset, .unset] [(.int (0 : Int32)), (.int (Int32.ofNat i)), (.ref r0)]))
        obtain ⟨T6, h6, X6, e6, W6, A6, st6⟩ := own_stZ XJ hx hZ eJ AJ (i := i) rfl (by omega) (g := (mkF m 11 #[.val (.ref r0), .val (.int (Int32.ofNat i)), .unset, .unset, .unset, .unset] [(.int (0 : Int32)), (.int (Int32.ofNat i)), (.ref r0)])) rfl rfl (hb hby d2_11)
        have N6 := Fr.snoc X6 NJ g_r0
        have Z6 := Nat.le_trans ZJ (Keep.of_wr W6).1
        have K6 := Keep.wr KJ W6 (Or.inl (List.mem_of_getElem? (i := 0) rfl))
        refine Goes.go st6 ?_
        show Goes p e below s _ _ _ (T6.setTop (mkF m 12 #[.val (.ref r0), .val (.int (Int32.ofNat i)), .unset, .unset, .unset, .unset] []))
        refine Goes.go (fun _ kst => XS.iinc X6.here hx rfl (hb hby d2_12) rfl (l' := #[.val (.ref r0), .val (.int ((Int32.ofNat i) + (1 : Int32))), .unset, .unset, .unset, .unset]) rfl kst) ?_
        rw [show (Int32.ofNat i + (1 : Int32)) = Int32.ofNat (i + 1) from own_add (n := 1) (by omega)]
        show Goes p e below s _ _ _ (T6.setTop (mkF m 15 #[.val (.ref r0), .val (.int (Int32.ofNat (i + 1))), .unset, .unset, .unset, .unset] []))
        refine Goes.go (fun _ kst => XS.goto X6.here hx rfl (pc0 := 15) (pc' := 2) rfl (hb hby d2_15) (by decide) (by decide) kst) ?_
        exact ih (i + 1) X6 e6 N6 Z6 K6 (A6.as (fun j hj => own_step j)) (by omega) (by rw [← hv]; simp only [own_fz]; rw [if_neg hc5_4])
  show Goes p e below s _ _ _ (s₁.setTop (mkF m 0 #[.val (.ref r0), .unset, .unset, .unset, .unset, .unset] []))
  refine Goes.go (fun _ kst => XS.iconst X0.here hx rfl (hb hby d2_0) kst) ?_
  show Goes p e below s _ _ _ (s₁.setTop (mkF m 1 #[.val (.ref r0), .unset, .unset, .unset, .unset, .unset] [(.int (0 : Int32))]))
  refine Goes.go (fun _ kst => XS.istoreN X0.here hx rfl (hb hby d2_1) rfl (l' := #[.val (.ref r0), .val (.int (0 : Int32)), .unset, .unset, .unset, .unset]) rfl kst) ?_
  exact LP1 n_r0 0 X0 e0 N0 Z0 K0 (A_r0.as (fun j hj => rfl)) (by omega) rfl
set_option maxRecDepth 65536 in
theorem own_t1 : ∀ k : Fin 1, own_fz (own_upd (fun _ => 0) 0 (nar .boolean (if (((Int32.ofNat k.val) >>> ((0 : Int32) &&& 31)) &&& (1 : Int32)) = (0 : Int32) then (0 : Int32) else (1 : Int32)))) 1 0 < 1 ∧ (own_all (own_W (own_upd (fun _ => 0) 0 (nar .boolean (if (((Int32.ofNat k.val) >>> ((0 : Int32) &&& 31)) &&& (1 : Int32)) = (0 : Int32) then (0 : Int32) else (1 : Int32)))) 1) 1 0) = (if (Int32.ofNat k.val + (1 : Int32)) = (1 : Int32) then (0 : Int32) else (1 : Int32)) ∧ ¬ (f3 0 (0 : Int32) (Int32.ofNat k.val + (1 : Int32)) 1 (own_W (own_upd (fun _ => 0) 0 (nar .boolean (if (((Int32.ofNat k.val) >>> ((0 : Int32) &&& 31)) &&& (1 : Int32)) = (0 : Int32) then (0 : Int32) else (1 : Int32)))) 1) 0 = (0 : Int32)) ∧ ¬ (f3 0 (1 : Int32) (Int32.ofNat k.val + (1 : Int32)) 1 (own_W (own_upd (fun _ => 0) 0 (nar .boolean (if (((Int32.ofNat k.val) >>> ((0 : Int32) &&& 31)) &&& (1 : Int32)) = (0 : Int32) then (0 : Int32) else (1 : Int32)))) 1) 1 = (0 : Int32)) ∧ ¬ (f3 0 (2 : Int32) (Int32.ofNat k.val + (1 : Int32)) 1 (own_W (own_upd (fun _ => 0) 0 (nar .boolean (if (((Int32.ofNat k.val) >>> ((0 : Int32) &&& 31)) &&& (1 : Int32)) = (0 : Int32) then (0 : Int32) else (1 : Int32)))) 1) 2 = (0 : Int32)) ∧ ¬ (f3 0 (3 : Int32) (Int32.ofNat k.val + (1 : Int32)) 1 (own_W (own_upd (fun _ => 0) 0 (nar .boolean (if (((Int32.ofNat k.val) >>> ((0 : Int32) &&& 31)) &&& (1 : Int32)) = (0 : Int32) then (0 : Int32) else (1 : Int32)))) 1) 3 = (0 : Int32)) ∧ ¬ (f3 0 (4 : Int32) (Int32.ofNat k.val + (1 : Int32)) 1 (own_W (own_upd (fun _ => 0) 0 (nar .boolean (if (((Int32.ofNat k.val) >>> ((0 : Int32) &&& 31)) &&& (1 : Int32)) = (0 : Int32) then (0 : Int32) else (1 : Int32)))) 1) 4 = (0 : Int32)) ∧ ¬ (f3 0 (5 : Int32) (Int32.ofNat k.val + (1 : Int32)) 1 (own_W (own_upd (fun _ => 0) 0 (nar .boolean (if (((Int32.ofNat k.val) >>> ((0 : Int32) &&& 31)) &&& (1 : Int32)) = (0 : Int32) then (0 : Int32) else (1 : Int32)))) 1) 5 = (0 : Int32)) := by decide +kernel
set_option maxRecDepth 65536 in
theorem own_t2 : ∀ k : Fin 3, own_fz (own_upd (own_upd (fun _ => 0) 0 (nar .boolean (if (((Int32.ofNat k.val) >>> ((0 : Int32) &&& 31)) &&& (1 : Int32)) = (0 : Int32) then (0 : Int32) else (1 : Int32)))) 1 (nar .boolean (if (((Int32.ofNat k.val) >>> ((1 : Int32) &&& 31)) &&& (1 : Int32)) = (0 : Int32) then (0 : Int32) else (1 : Int32)))) 2 0 < 2 ∧ (own_all (own_W (own_upd (own_upd (fun _ => 0) 0 (nar .boolean (if (((Int32.ofNat k.val) >>> ((0 : Int32) &&& 31)) &&& (1 : Int32)) = (0 : Int32) then (0 : Int32) else (1 : Int32)))) 1 (nar .boolean (if (((Int32.ofNat k.val) >>> ((1 : Int32) &&& 31)) &&& (1 : Int32)) = (0 : Int32) then (0 : Int32) else (1 : Int32)))) 2) 2 0) = (if (Int32.ofNat k.val + (1 : Int32)) = (3 : Int32) then (0 : Int32) else (1 : Int32)) ∧ ¬ (f3 0 (0 : Int32) (Int32.ofNat k.val + (1 : Int32)) 2 (own_W (own_upd (own_upd (fun _ => 0) 0 (nar .boolean (if (((Int32.ofNat k.val) >>> ((0 : Int32) &&& 31)) &&& (1 : Int32)) = (0 : Int32) then (0 : Int32) else (1 : Int32)))) 1 (nar .boolean (if (((Int32.ofNat k.val) >>> ((1 : Int32) &&& 31)) &&& (1 : Int32)) = (0 : Int32) then (0 : Int32) else (1 : Int32)))) 2) 0 = (0 : Int32)) ∧ ¬ (f3 0 (1 : Int32) (Int32.ofNat k.val + (1 : Int32)) 2 (own_W (own_upd (own_upd (fun _ => 0) 0 (nar .boolean (if (((Int32.ofNat k.val) >>> ((0 : Int32) &&& 31)) &&& (1 : Int32)) = (0 : Int32) then (0 : Int32) else (1 : Int32)))) 1 (nar .boolean (if (((Int32.ofNat k.val) >>> ((1 : Int32) &&& 31)) &&& (1 : Int32)) = (0 : Int32) then (0 : Int32) else (1 : Int32)))) 2) 1 = (0 : Int32)) ∧ ¬ (f3 0 (2 : Int32) (Int32.ofNat k.val + (1 : Int32)) 2 (own_W (own_upd (own_upd (fun _ => 0) 0 (nar .boolean (if (((Int32.ofNat k.val) >>> ((0 : Int32) &&& 31)) &&& (1 : Int32)) = (0 : Int32) then (0 : Int32) else (1 : Int32)))) 1 (nar .boolean (if (((Int32.ofNat k.val) >>> ((1 : Int32) &&& 31)) &&& (1 : Int32)) = (0 : Int32) then (0 : Int32) else (1 : Int32)))) 2) 2 = (0 : Int32)) ∧ ¬ (f3 0 (3 : Int32) (Int32.ofNat k.val + (1 : Int32)) 2 (own_W (own_upd (own_upd (fun _ => 0) 0 (nar .boolean (if (((Int32.ofNat k.val) >>> ((0 : Int32) &&& 31)) &&& (1 : Int32)) = (0 : Int32) then (0 : Int32) else (1 : Int32)))) 1 (nar .boolean (if (((Int32.ofNat k.val) >>> ((1 : Int32) &&& 31)) &&& (1 : Int32)) = (0 : Int32) then (0 : Int32) else (1 : Int32)))) 2) 3 = (0 : Int32)) ∧ ¬ (f3 0 (4 : Int32) (Int32.ofNat k.val + (1 : Int32)) 2 (own_W (own_upd (own_upd (fun _ => 0) 0 (nar .boolean (if (((Int32.ofNat k.val) >>> ((0 : Int32) &&& 31)) &&& (1 : Int32)) = (0 : Int32) then (0 : Int32) else (1 : Int32)))) 1 (nar .boolean (if (((Int32.ofNat k.val) >>> ((1 : Int32) &&& 31)) &&& (1 : Int32)) = (0 : Int32) then (0 : Int32) else (1 : Int32)))) 2) 4 = (0 : Int32)) ∧ ¬ (f3 0 (5 : Int32) (Int32.ofNat k.val + (1 : Int32)) 2 (own_W (own_upd (own_upd (fun _ => 0) 0 (nar .boolean (if (((Int32.ofNat k.val) >>> ((0 : Int32) &&& 31)) &&& (1 : Int32)) = (0 : Int32) then (0 : Int32) else (1 : Int32)))) 1 (nar .boolean (if (((Int32.ofNat k.val) >>> ((1 : Int32) &&& 31)) &&& (1 : Int32)) = (0 : Int32) then (0 : Int32) else (1 : Int32)))) 2) 5 = (0 : Int32)) := by decide +kernel
set_option maxRecDepth 65536 in
theorem own_t3 : ∀ k : Fin 7, own_fz (own_upd (own_upd (own_upd (fun _ => 0) 0 (nar .boolean (if (((Int32.ofNat k.val) >>> ((0 : Int32) &&& 31)) &&& (1 : Int32)) = (0 : Int32) then (0 : Int32) else (1 : Int32)))) 1 (nar .boolean (if (((Int32.ofNat k.val) >>> ((1 : Int32) &&& 31)) &&& (1 : Int32)) = (0 : Int32) then (0 : Int32) else (1 : Int32)))) 2 (nar .boolean (if (((Int32.ofNat k.val) >>> ((2 : Int32) &&& 31)) &&& (1 : Int32)) = (0 : Int32) then (0 : Int32) else (1 : Int32)))) 3 0 < 3 ∧ (own_all (own_W (own_upd (own_upd (own_upd (fun _ => 0) 0 (nar .boolean (if (((Int32.ofNat k.val) >>> ((0 : Int32) &&& 31)) &&& (1 : Int32)) = (0 : Int32) then (0 : Int32) else (1 : Int32)))) 1 (nar .boolean (if (((Int32.ofNat k.val) >>> ((1 : Int32) &&& 31)) &&& (1 : Int32)) = (0 : Int32) then (0 : Int32) else (1 : Int32)))) 2 (nar .boolean (if (((Int32.ofNat k.val) >>> ((2 : Int32) &&& 31)) &&& (1 : Int32)) = (0 : Int32) then (0 : Int32) else (1 : Int32)))) 3) 3 0) = (if (Int32.ofNat k.val + (1 : Int32)) = (7 : Int32) then (0 : Int32) else (1 : Int32)) ∧ ¬ (f3 0 (0 : Int32) (Int32.ofNat k.val + (1 : Int32)) 3 (own_W (own_upd (own_upd (own_upd (fun _ => 0) 0 (nar .boolean (if (((Int32.ofNat k.val) >>> ((0 : Int32) &&& 31)) &&& (1 : Int32)) = (0 : Int32) then (0 : Int32) else (1 : Int32)))) 1 (nar .boolean (if (((Int32.ofNat k.val) >>> ((1 : Int32) &&& 31)) &&& (1 : Int32)) = (0 : Int32) then (0 : Int32) else (1 : Int32)))) 2 (nar .boolean (if (((Int32.ofNat k.val) >>> ((2 : Int32) &&& 31)) &&& (1 : Int32)) = (0 : Int32) then (0 : Int32) else (1 : Int32)))) 3) 0 = (0 : Int32)) ∧ ¬ (f3 0 (1 : Int32) (Int32.ofNat k.val + (1 : Int32)) 3 (own_W (own_upd (own_upd (own_upd (fun _ => 0) 0 (nar .boolean (if (((Int32.ofNat k.val) >>> ((0 : Int32) &&& 31)) &&& (1 : Int32)) = (0 : Int32) then (0 : Int32) else (1 : Int32)))) 1 (nar .boolean (if (((Int32.ofNat k.val) >>> ((1 : Int32) &&& 31)) &&& (1 : Int32)) = (0 : Int32) then (0 : Int32) else (1 : Int32)))) 2 (nar .boolean (if (((Int32.ofNat k.val) >>> ((2 : Int32) &&& 31)) &&& (1 : Int32)) = (0 : Int32) then (0 : Int32) else (1 : Int32)))) 3) 1 = (0 : Int32)) ∧ ¬ (f3 0 (2 : Int32) (Int32.ofNat k.val + (1 : Int32)) 3 (own_W (own_upd (own_upd (own_upd (fun _ => 0) 0 (nar .boolean (if (((Int32.ofNat k.val) >>> ((0 : Int32) &&& 31)) &&& (1 : Int32)) = (0 : Int32) then (0 : Int32) else (1 : Int32)))) 1 (nar .boolean (if (((Int32.ofNat k.val) >>> ((1 : Int32) &&& 31)) &&& (1 : Int32)) = (0 : Int32) then (0 : Int32) else (1 : Int32)))) 2 (nar .boolean (if (((Int32.ofNat k.val) >>> ((2 : Int32) &&& 31)) &&& (1 : Int32)) = (0 : Int32) then (0 : Int32) else (1 : Int32)))) 3) 2 = (0 : Int32)) ∧ ¬ (f3 0 (3 : Int32) (Int32.ofNat k.val + (1 : Int32)) 3 (own_W (own_upd (own_upd (own_upd (fun _ => 0) 0 (nar .boolean (if (((Int32.ofNat k.val) >>> ((0 : Int32) &&& 31)) &&& (1 : Int32)) = (0 : Int32) then (0 : Int32) else (1 : Int32)))) 1 (nar .boolean (if (((Int32.ofNat k.val) >>> ((1 : Int32) &&& 31)) &&& (1 : Int32)) = (0 : Int32) then (0 : Int32) else (1 : Int32)))) 2 (nar .boolean (if (((Int32.ofNat k.val) >>> ((2 : Int32) &&& 31)) &&& (1 : Int32)) = (0 : Int32) then (0 : Int32) else (1 : Int32)))) 3) 3 = (0 : Int32)) ∧ ¬ (f3 0 (4 : Int32) (Int32.ofNat k.val + (1 : Int32)) 3 (own_W (own_upd (own_upd (own_upd (fun _ => 0) 0 (nar .boolean (if (((Int32.ofNat k.val) >>> ((0 : Int32) &&& 31)) &&& (1 : Int32)) = (0 : Int32) then (0 : Int32) else (1 : Int32)))) 1 (nar .boolean (if (((Int32.ofNat k.val) >>> ((1 : Int32) &&& 31)) &&& (1 : Int32)) = (0 : Int32) then (0 : Int32) else (1 : Int32)))) 2 (nar .boolean (if (((Int32.ofNat k.val) >>> ((2 : Int32) &&& 31)) &&& (1 : Int32)) = (0 : Int32) then (0 : Int32) else (1 : Int32)))) 3) 4 = (0 : Int32)) ∧ ¬ (f3 0 (5 : Int32) (Int32.ofNat k.val + (1 : Int32)) 3 (own_W (own_upd (own_upd (own_upd (fun _ => 0) 0 (nar .boolean (if (((Int32.ofNat k.val) >>> ((0 : Int32) &&& 31)) &&& (1 : Int32)) = (0 : Int32) then (0 : Int32) else (1 : Int32)))) 1 (nar .boolean (if (((Int32.ofNat k.val) >>> ((1 : Int32) &&& 31)) &&& (1 : Int32)) = (0 : Int32) then (0 : Int32) else (1 : Int32)))) 2 (nar .boolean (if (((Int32.ofNat k.val) >>> ((2 : Int32) &&& 31)) &&& (1 : Int32)) = (0 : Int32) then (0 : Int32) else (1 : Int32)))) 3) 5 = (0 : Int32)) := by decide +kernel
set_option maxRecDepth 65536 in
theorem own_t4 : ∀ k : Fin 15, own_fz (own_upd (own_upd (own_upd (own_upd (fun _ => 0) 0 (nar .boolean (if (((Int32.ofNat k.val) >>> ((0 : Int32) &&& 31)) &&& (1 : Int32)) = (0 : Int32) then (0 : Int32) else (1 : Int32)))) 1 (nar .boolean (if (((Int32.ofNat k.val) >>> ((1 : Int32) &&& 31)) &&& (1 : Int32)) = (0 : Int32) then (0 : Int32) else (1 : Int32)))) 2 (nar .boolean (if (((Int32.ofNat k.val) >>> ((2 : Int32) &&& 31)) &&& (1 : Int32)) = (0 : Int32) then (0 : Int32) else (1 : Int32)))) 3 (nar .boolean (if (((Int32.ofNat k.val) >>> ((3 : Int32) &&& 31)) &&& (1 : Int32)) = (0 : Int32) then (0 : Int32) else (1 : Int32)))) 4 0 < 4 ∧ (own_all (own_W (own_upd (own_upd (own_upd (own_upd (fun _ => 0) 0 (nar .boolean (if (((Int32.ofNat k.val) >>> ((0 : Int32) &&& 31)) &&& (1 : Int32)) = (0 : Int32) then (0 : Int32) else (1 : Int32)))) 1 (nar .boolean (if (((Int32.ofNat k.val) >>> ((1 : Int32) &&& 31)) &&& (1 : Int32)) = (0 : Int32) then (0 : Int32) else (1 : Int32)))) 2 (nar .boolean (if (((Int32.ofNat k.val) >>> ((2 : Int32) &&& 31)) &&& (1 : Int32)) = (0 : Int32) then (0 : Int32) else (1 : Int32)))) 3 (nar .boolean (if (((Int32.ofNat k.val) >>> ((3 : Int32) &&& 31)) &&& (1 : Int32)) = (0 : Int32) then (0 : Int32) else (1 : Int32)))) 4) 4 0) = (if (Int32.ofNat k.val + (1 : Int32)) = (15 : Int32) then (0 : Int32) else (1 : Int32)) ∧ ¬ (f3 0 (0 : Int32) (Int32.ofNat k.val + (1 : Int32)) 4 (own_W (own_upd (own_upd (own_upd (own_upd (fun _ => 0) 0 (nar .boolean (if (((Int32.ofNat k.val) >>> ((0 : Int32) &&& 31)) &&& (1 : Int32)) = (0 : Int32) then (0 : Int32) else (1 : Int32)))) 1 (nar .boolean (if (((Int32.ofNat k.val) >>> ((1 : Int32) &&& 31)) &&& (1 : Int32)) = (0 : Int32) then (0 : Int32) else (1 : Int32)))) 2 (nar .boolean (if (((Int32.ofNat k.val) >>> ((2 : Int32) &&& 31)) &&& (1 : Int32)) = (0 : Int32) then (0 : Int32) else (1 : Int32)))) 3 (nar .boolean (if (((Int32.ofNat k.val) >>> ((3 : Int32) &&& 31)) &&& (1 : Int32)) = (0 : Int32) then (0 : Int32) else (1 : Int32)))) 4) 0 = (0 : Int32)) ∧ ¬ (f3 0 (1 : Int32) (Int32.ofNat k.val + (1 : Int32)) 4 (own_W (own_upd (own_upd (own_upd (own_upd (fun _ => 0) 0 (nar .boolean (if (((Int32.ofNat k.val) >>> ((0 : Int32) &&& 31)) &&& (1 : Int32)) = (0 : Int32) then (0 : Int32) else (1 : Int32)))) 1 (nar .boolean (if (((Int32.ofNat k.val) >>> ((1 : Int32) &&& 31)) &&& (1 : Int32)) = (0 : Int32) then (0 : Int32) else (1 : Int32)))) 2 (nar .boolean (if (((Int32.ofNat k.val) >>> ((2 : Int32) &&& 31)) &&& (1 : Int32)) = (0 : Int32) then (0 : Int32) else (1 : Int32)))) 3 (nar .boolean (if (((Int32.ofNat k.val) >>> ((3 : Int32) &&& 31)) &&& (1 : Int32)) = (0 : Int32) then (0 : Int32) else (1 : Int32)))) 4) 1 = (0 : Int32)) ∧ ¬ (f3 0 (2 : Int32) (Int32.ofNat k.val + (1 : Int32)) 4 (own_W (own_upd (own_upd (own_upd (own_upd (fun _ => 0) 0 (nar .boolean (if (((Int32.ofNat k.val) >>> ((0 : Int32) &&& 31)) &&& (1 : Int32)) = (0 : Int32) then (0 : Int32) else (1 : Int32)))) 1 (nar .boolean (if (((Int32.ofNat k.val) >>> ((1 : Int32) &&& 31)) &&& (1 : Int32)) = (0 : Int32) then (0 : Int32) else (1 : Int32)))) 2 (nar .boolean (if (((Int32.ofNat k.val) >>> ((2 : Int32) &&& 31)) &&& (1 : Int32)) = (0 : Int32) then (0 : Int32) else (1 : Int32)))) 3 (nar .boolean (if (((Int32.ofNat k.val) >>> ((3 : Int32) &&& 31)) &&& (1 : Int32)) = (0 : Int32) then (0 : Int32) else (1 : Int32)))) 4) 2 = (0 : Int32)) ∧ ¬ (f3 0 (3 : Int32) (Int32.ofNat k.val + (1 : Int32)) 4 (own_W (own_upd (own_upd (own_upd (own_upd (fun _ => 0) 0 (nar .boolean (if (((Int32.ofNat k.val) >>> ((0 : Int32) &&& 31)) &&& (1 : Int32)) = (0 : Int32) then (0 : Int32) else (1 : Int32)))) 1 (nar .boolean (if (((Int32.ofNat k.val) >>> ((1 : Int32) &&& 31)) &&& (1 : Int32)) = (0 : Int32) then (0 : Int32) else (1 : Int32)))) 2 (nar .boolean (if (((Int32.ofNat k.val) >>> ((2 : Int32) &&& 31)) &&& (1 : Int32)) = (0 : Int32) then (0 : Int32) else (1 : Int32)))) 3 (nar .boolean (if (((Int32.ofNat k.val) >>> ((3 : Int32) &&& 31)) &&& (1 : Int32)) = (0 : Int32) then (0 : Int32) else (1 : Int32)))) 4) 3 = (0 : Int32)) ∧ ¬ (f3 0 (4 : Int32) (Int32.ofNat k.val + (1 : Int32)) 4 (own_W (own_upd (own_upd (own_upd (own_upd (fun _ => 0) 0 (nar .boolean (if (((Int32.ofNat k.val) >>> ((0 : Int32) &&& 31)) &&& (1 : Int32)) = (0 : Int32) then (0 : Int32) else (1 : Int32)))) 1 (nar .boolean (if (((Int32.ofNat k.val) >>> ((1 : Int32) &&& 31)) &&& (1 : Int32)) = (0 : Int32) then (0 : Int32) else (1 : Int32)))) 2 (nar .boolean (if (((Int32.ofNat k.val) >>> ((2 : Int32) &&& 31)) &&& (1 : Int32)) = (0 : Int32) then (0 : Int32) else (1 : Int32)))) 3 (nar .boolean (if (((Int32.ofNat k.val) >>> ((3 : Int32) &&& 31)) &&& (1 : Int32)) = (0 : Int32) then (0 : Int32) else (1 : Int32)))) 4) 4 = (0 : Int32)) ∧ ¬ (f3 0 (5 : Int32) (Int32.ofNat k.val + (1 : Int32)) 4 (own_W (own_upd (own_upd (own_upd (own_upd (fun _ => 0) 0 (nar .boolean (if (((Int32.ofNat k.val) >>> ((0 : Int32) &&& 31)) &&& (1 : Int32)) = (0 : Int32) then (0 : Int32) else (1 : Int32)))) 1 (nar .boolean (if (((Int32.ofNat k.val) >>> ((1 : Int32) &&& 31)) &&& (1 : Int32)) = (0 : Int32) then (0 : Int32) else (1 : Int32)))) 2 (nar .boolean (if (((Int32.ofNat k.val) >>> ((2 : Int32) &&& 31)) &&& (1 : Int32)) = (0 : Int32) then (0 : Int32) else (1 : Int32)))) 3 (nar .boolean (if (((Int32.ofNat k.val) >>> ((3 : Int32) &&& 31)) &&& (1 : Int32)) = (0 : Int32) then (0 : Int32) else (1 : Int32)))) 4) 5 = (0 : Int32)) := by decide +kernel
set_option maxRecDepth 65536 in
theorem own_t5 : ∀ k : Fin 31, own_fz (own_upd (own_upd (own_upd (own_upd (own_upd (fun _ => 0) 0 (nar .boolean (if (((Int32.ofNat k.val) >>> ((0 : Int32) &&& 31)) &&& (1 : Int32)) = (0 : Int32) then (0 : Int32) else (1 : Int32)))) 1 (nar .boolean (if (((Int32.ofNat k.val) >>> ((1 : Int32) &&& 31)) &&& (1 : Int32)) = (0 : Int32) then (0 : Int32) else (1 : Int32)))) 2 (nar .boolean (if (((Int32.ofNat k.val) >>> ((2 : Int32) &&& 31)) &&& (1 : Int32)) = (0 : Int32) then (0 : Int32) else (1 : Int32)))) 3 (nar .boolean (if (((Int32.ofNat k.val) >>> ((3 : Int32) &&& 31)) &&& (1 : Int32)) = (0 : Int32) then (0 : Int32) else (1 : Int32)))) 4 (nar .boolean (if (((Int32.ofNat k.val) >>> ((4 : Int32) &&& 31)) &&& (1 : Int32)) = (0 : Int32) then (0 : Int32) else (1 : Int32)))) 5 0 < 5 ∧ (own_all (own_W (own_upd (own_upd (own_upd (own_upd (own_upd (fun _ => 0) 0 (nar .boolean (if (((Int32.ofNat k.val) >>> ((0 : Int32) &&& 31)) &&& (1 : Int32)) = (0 : Int32) then (0 : Int32) else (1 : Int32)))) 1 (nar .boolean (if (((Int32.ofNat k.val) >>> ((1 : Int32) &&& 31)) &&& (1 : Int32)) = (0 : Int32) then (0 : Int32) else (1 : Int32)))) 2 (nar .boolean (if (((Int32.ofNat k.val) >>> ((2 : Int32) &&& 31)) &&& (1 : Int32)) = (0 : Int32) then (0 : Int32) else (1 : Int32)))) 3 (nar .boolean (if (((Int32.ofNat k.val) >>> ((3 : Int32) &&& 31)) &&& (1 : Int32)) = (0 : Int32) then (0 : Int32) else (1 : Int32)))) 4 (nar .boolean (if (((Int32.ofNat k.val) >>> ((4 : Int32) &&& 31)) &&& (1 : Int32)) = (0 : Int32) then (0 : Int32) else (1 : Int32)))) 5) 5 0) = (if (Int32.ofNat k.val + (1 : Int32)) = (31 : Int32) then (0 : Int32) else (1 : Int32)) ∧ ¬ (f3 0 (0 : Int32) (Int32.ofNat k.val + (1 : Int32)) 5 (own_W (own_upd (own_upd (own_upd (own_upd (own_upd (fun _ => 0) 0 (nar .boolean (if (((Int32.ofNat k.val) >>> ((0 : Int32) &&& 31)) &&& (1 : Int32)) = (0 : Int32) then (0 : Int32) else (1 : Int32)))) 1 (nar .boolean (if (((Int32.ofNat k.val) >>> ((1 : Int32) &&& 31)) &&& (1 : Int32)) = (0 : Int32) then (0 : Int32) else (1 : Int32)))) 2 (nar .boolean (if (((Int32.ofNat k.val) >>> ((2 : Int32) &&& 31)) &&& (1 : Int32)) = (0 : Int32) then (0 : Int32) else (1 : Int32)))) 3 (nar .boolean (if (((Int32.ofNat k.val) >>> ((3 : Int32) &&& 31)) &&& (1 : Int32)) = (0 : Int32) then (0 : Int32) else (1 : Int32)))) 4 (nar .boolean (if (((Int32.ofNat k.val) >>> ((4 : Int32) &&& 31)) &&& (1 : Int32)) = (0 : Int32) then (0 : Int32) else (1 : Int32)))) 5) 0 = (0 : Int32)) ∧ ¬ (f3 0 (1 : Int32) (Int32.ofNat k.val + (1 : Int32)) 5 (own_W (own_upd (own_upd (own_upd (own_upd (own_upd (fun _ => 0) 0 (nar .boolean (if (((Int32.ofNat k.val) >>> ((0 : Int32) &&& 31)) &&& (1 : Int32)) = (0 : Int32) then (0 : Int32) else (1 : Int32)))) 1 (nar .boolean (if (((Int32.ofNat k.val) >>> ((1 : Int32) &&& 31)) &&& (1 : Int32)) = (0 : Int32) then (0 : Int32) else (1 : Int32)))) 2 (nar .boolean (if (((Int32.ofNat k.val) >>> ((2 : Int32) &&& 31)) &&& (1 : Int32)) = (0 : Int32) then (0 : Int32) else (1 : Int32)))) 3 (nar .boolean (if (((Int32.ofNat k.val) >>> ((3 : Int32) &&& 31)) &&& (1 : Int32)) = (0 : Int32) then (0 : Int32) else (1 : Int32)))) 4 (nar .boolean (if (((Int32.ofNat k.val) >>> ((4 : Int32) &&& 31)) &&& (1 : Int32)) = (0 : Int32) then (0 : Int32) else (1 : Int32)))) 5) 1 = (0 : Int32)) ∧ ¬ (f3 0 (2 : Int32) (Int32.ofNat k.val + (1 : Int32)) 5 (own_W (own_upd (own_upd (own_upd (own_upd (own_upd (fun _ => 0) 0 (nar .boolean (if (((Int32.ofNat k.val) >>> ((0 : Int32) &&& 31)) &&& (1 : Int32)) = (0 : Int32) then (0 : Int32) else (1 : Int32)))) 1 (nar .boolean (if (((Int32.ofNat k.val) >>> ((1 : Int32) &&& 31)) &&& (1 : Int32)) = (0 : Int32) then (0 : Int32) else (1 : Int32)))) 2 (nar .boolean (if (((Int32.ofNat k.val) >>> ((2 : Int32) &&& 31)) &&& (1 : Int32)) = (0 : Int32) then (0 : Int32) else (1 : Int32)))) 3 (nar .boolean (if (((Int32.ofNat k.val) >>> ((3 : Int32) &&& 31)) &&& (1 : Int32)) = (0 : Int32) then (0 : Int32) else (1 : Int32)))) 4 (nar .boolean (if (((Int32.ofNat k.val) >>> ((4 : Int32) &&& 31)) &&& (1 : Int32)) = (0 : Int32) then (0 : Int32) else (1 : Int32)))) 5) 2 = (0 : Int32)) ∧ ¬ (f3 0 (3 : Int32) (Int32.ofNat k.val + (1 : Int32)) 5 (own_W (own_upd (own_upd (own_upd (own_upd (own_upd (fun _ => 0) 0 (nar .boolean (if (((Int32.ofNat k.val) >>> ((0 : Int32) &&& 31)) &&& (1 : Int32)) = (0 : Int32) then (0 : Int32) else (1 : Int32)))) 1 (nar .boolean (if (((Int32.ofNat k.val) >>> ((1 : Int32) &&& 31)) &&& (1 : Int32)) = (0 : Int32) then (0 : Int32) else (1 : Int32)))) 2 (nar .boolean (if (((Int32.ofNat k.val) >>> ((2 : Int32) &&& 31)) &&& (1 : Int32)) = (0 : Int32) then (0 : Int32) else (1 : Int32)))) 3 (nar .boolean (if (((Int32.ofNat k.val) >>> ((3 : Int32) &&& 31)) &&& (1 : Int32)) = (0 : Int32) then (0 : Int32) else (1 : Int32)))) 4 (nar .boolean (if (((Int32.ofNat k.val) >>> ((4 : Int32) &&& 31)) &&& (1 : Int32)) = (0 : Int32) then (0 : Int32) else (1 : Int32)))) 5) 3 = (0 : Int32)) ∧ ¬ (f3 0 (4 : Int32) (Int32.ofNat k.val + (1 : Int32)) 5 (own_W (own_upd (own_upd (own_upd (own_upd (own_upd (fun _ => 0) 0 (nar .boolean (if (((Int32.ofNat k.val) >>> ((0 : Int32) &&& 31)) &&& (1 : Int32)) = (0 : Int32) then (0 : Int32) else (1 : Int32)))) 1 (nar .boolean (if (((Int32.ofNat k.val) >>> ((1 : Int32) &&& 31)) &&& (1 : Int32)) = (0 : Int32) then (0 : Int32) else (1 : Int32)))) 2 (nar .boolean (if (((Int32.ofNat k.val) >>> ((2 : Int32) &&& 31)) &&& (1 : Int32)) = (0 : Int32) then (0 : Int32) else (1 : Int32)))) 3 (nar .boolean (if (((Int32.ofNat k.val) >>> ((3 : Int32) &&& 31)) &&& (1 : Int32)) = (0 : Int32) then (0 : Int32) else (1 : Int32)))) 4 (nar .boolean (if (((Int32.ofNat k.val) >>> ((4 : Int32) &&& 31)) &&& (1 : Int32)) = (0 : Int32) then (0 : Int32) else (1 : Int32)))) 5) 4 = (0 : Int32)) ∧ ¬ (f3 0 (5 : Int32) (Int32.ofNat k.val + (1 : Int32)) 5 (own_W (own_upd (own_upd (own_upd (own_upd (own_upd (fun _ => 0) 0 (nar .boolean (if (((Int32.ofNat k.val) >>> ((0 : Int32) &&& 31)) &&& (1 : Int32)) = (0 : Int32) then (0 : Int32) else (1 : Int32)))) 1 (nar .boolean (if (((Int32.ofNat k.val) >>> ((1 : Int32) &&& 31)) &&& (1 : Int32)) = (0 : Int32) then (0 : Int32) else (1 : Int32)))) 2 (nar .boolean (if (((Int32.ofNat k.val) >>> ((2 : Int32) &&& 31)) &&& (1 : Int32)) = (0 : Int32) then (0 : Int32) else (1 : Int32)))) 3 (nar .boolean (if (((Int32.ofNat k.val) >>> ((3 : Int32) &&& 31)) &&& (1 : Int32)) = (0 : Int32) then (0 : Int32) else (1 : Int32)))) 4 (nar .boolean (if (((Int32.ofNat k.val) >>> ((4 : Int32) &&& 31)) &&& (1 : Int32)) = (0 : Int32) then (0 : Int32) else (1 : Int32)))) 5) 5 = (0 : Int32)) := by decide +kernel
set_option maxRecDepth 65536 in
theorem own_t6 : ∀ k : Fin 63, own_fz (own_upd (own_upd (own_upd (own_upd (own_upd (own_upd (fun _ => 0) 0 (nar .boolean (if (((Int32.ofNat k.val) >>> ((0 : Int32) &&& 31)) &&& (1 : Int32)) = (0 : Int32) then (0 : Int32) else (1 : Int32)))) 1 (nar .boolean (if (((Int32.ofNat k.val) >>> ((1 : Int32) &&& 31)) &&& (1 : Int32)) = (0 : Int32) then (0 : Int32) else (1 : Int32)))) 2 (nar .boolean (if (((Int32.ofNat k.val) >>> ((2 : Int32) &&& 31)) &&& (1 : Int32)) = (0 : Int32) then (0 : Int32) else (1 : Int32)))) 3 (nar .boolean (if (((Int32.ofNat k.val) >>> ((3 : Int32) &&& 31)) &&& (1 : Int32)) = (0 : Int32) then (0 : Int32) else (1 : Int32)))) 4 (nar .boolean (if (((Int32.ofNat k.val) >>> ((4 : Int32) &&& 31)) &&& (1 : Int32)) = (0 : Int32) then (0 : Int32) else (1 : Int32)))) 5 (nar .boolean (if (((Int32.ofNat k.val) >>> ((5 : Int32) &&& 31)) &&& (1 : Int32)) = (0 : Int32) then (0 : Int32) else (1 : Int32)))) 6 0 < 6 ∧ (own_all (own_W (own_upd (own_upd (own_upd (own_upd (own_upd (own_upd (fun _ => 0) 0 (nar .boolean (if (((Int32.ofNat k.val) >>> ((0 : Int32) &&& 31)) &&& (1 : Int32)) = (0 : Int32) then (0 : Int32) else (1 : Int32)))) 1 (nar .boolean (if (((Int32.ofNat k.val) >>> ((1 : Int32) &&& 31)) &&& (1 : Int32)) = (0 : Int32) then (0 : Int32) else (1 : Int32)))) 2 (nar .boolean (if (((Int32.ofNat k.val) >>> ((2 : Int32) &&& 31)) &&& (1 : Int32)) = (0 : Int32) then (0 : Int32) else (1 : Int32)))) 3 (nar .boolean (if (((Int32.ofNat k.val) >>> ((3 : Int32) &&& 31)) &&& (1 : Int32)) = (0 : Int32) then (0 : Int32) else (1 : Int32)))) 4 (nar .boolean (if (((Int32.ofNat k.val) >>> ((4 : Int32) &&& 31)) &&& (1 : Int32)) = (0 : Int32) then (0 : Int32) else (1 : Int32)))) 5 (nar .boolean (if (((Int32.ofNat k.val) >>> ((5 : Int32) &&& 31)) &&& (1 : Int32)) = (0 : Int32) then (0 : Int32) else (1 : Int32)))) 6) 6 0) = (if (Int32.ofNat k.val + (1 : Int32)) = (63 : Int32) then (0 : Int32) else (1 : Int32)) ∧ ¬ (f3 0 (0 : Int32) (Int32.ofNat k.val + (1 : Int32)) 6 (own_W (own_upd (own_upd (own_upd (own_upd (own_upd (own_upd (fun _ => 0) 0 (nar .boolean (if (((Int32.ofNat k.val) >>> ((0 : Int32) &&& 31)) &&& (1 : Int32)) = (0 : Int32) then (0 : Int32) else (1 : Int32)))) 1 (nar .boolean (if (((Int32.ofNat k.val) >>> ((1 : Int32) &&& 31)) &&& (1 : Int32)) = (0 : Int32) then (0 : Int32) else (1 : Int32)))) 2 (nar .boolean (if (((Int32.ofNat k.val) >>> ((2 : Int32) &&& 31)) &&& (1 : Int32)) = (0 : Int32) then (0 : Int32) else (1 : Int32)))) 3 (nar .boolean (if (((Int32.ofNat k.val) >>> ((3 : Int32) &&& 31)) &&& (1 : Int32)) = (0 : Int32) then (0 : Int32) else (1 : Int32)))) 4 (nar .boolean (if (((Int32.ofNat k.val) >>> ((4 : Int32) &&& 31)) &&& (1 : Int32)) = (0 : Int32) then (0 : Int32) else (1 : Int32)))) 5 (nar .boolean (if (((Int32.ofNat k.val) >>> ((5 : Int32) &&& 31)) &&& (1 : Int32)) = (0 : Int32) then (0 : Int32) else (1 : Int32)))) 6) 0 = (0 : Int32)) ∧ ¬ (f3 0 (1 : Int32) (Int32.ofNat k.val + (1 : Int32)) 6 (own_W (own_upd (own_upd (own_upd (own_upd (own_upd (own_upd (fun _ => 0) 0 (nar .boolean (if (((Int32.ofNat k.val) >>> ((0 : Int32) &&& 31)) &&& (1 : Int32)) = (0 : Int32) then (0 : Int32) else (1 : Int32)))) 1 (nar .boolean (if (((Int32.ofNat k.val) >>> ((1 : Int32) &&& 31)) &&& (1 : Int32)) = (0 : Int32) then (0 : Int32) else (1 : Int32)))) 2 (nar .boolean (if (((Int32.ofNat k.val) >>> ((2 : Int32) &&& 31)) &&& (1 : Int32)) = (0 : Int32) then (0 : Int32) else (1 : Int32)))) 3 (nar .boolean (if (((Int32.ofNat k.val) >>> ((3 : Int32) &&& 31)) &&& (1 : Int32)) = (0 : Int32) then (0 : Int32) else (1 : Int32)))) 4 (nar .boolean (if (((Int32.ofNat k.val) >>> ((4 : Int32) &&& 31)) &&& (1 : Int32)) = (0 : Int32) then (0 : Int32) else (1 : Int32)))) 5 (nar .boolean (if (((Int32.ofNat k.val) >>> ((5 : Int32) &&& 31)) &&& (1 : Int32)) = (0 : Int32) then (0 : Int32) else (1 : Int32)))) 6) 1 = (0 : Int32)) ∧ ¬ (f3 0 (2 : Int32) (Int32.ofNat k.val + (1 : Int32)) 6 (own_W (own_upd (own_upd (own_upd (own_upd (own_upd (own_upd (fun _ => 0) 0 (nar .boolean (if (((Int32.ofNat k.val) >>> ((0 : Int32) &&& 31)) &&& (1 : Int32)) = (0 : Int32) then (0 : Int32) else (1 : Int32)))) 1 (nar .boolean (if (((Int32.ofNat k.val) >>> ((1 : Int32) &&& 31)) &&& (1 : Int32)) = (0 : Int32) then (0 : Int32) else (1 : Int32)))) 2 (nar .boolean (if (((Int32.ofNat k.val) >>> ((2 : Int32) &&& 31)) &&& (1 : Int32)) = (0 : Int32) then (0 : Int32) else (1 : Int32)))) 3 (nar .boolean (if (((Int32.ofNat k.val) >>> ((3 : Int32) &&& 31)) &&& (1 : Int32)) = (0 : Int32) then (0 : Int32) else (1 : Int32)))) 4 (nar .boolean (if (((Int32.ofNat k.val) >>> ((4 : Int32) &&& 31)) &&& (1 : Int32)) = (0 : Int32) then (0 : Int32) else (1 : Int32)))) 5 (nar .boolean (if (((Int32.ofNat k.val) >>> ((5 : Int32) &&& 31)) &&& (1 : Int32)) = (0 : Int32) then (0 : Int32) else (1 : Int32)))) 6) 2 = (0 : Int32)) ∧ ¬ (f3 0 (3 : Int32) (Int32.ofNat k.val + (1 : Int32)) 6 (own_W (own_upd (own_upd (own_upd (own_upd (own_upd (own_upd (fun _ => 0) 0 (nar .boolean (if (((Int32.ofNat k.val) >>> ((0 : Int32) &&& 31)) &&& (1 : Int32)) = (0 : Int32) then (0 : Int32) else (1 : Int32)))) 1 (nar .boolean (if (((Int32.ofNat k.val) >>> ((1 : Int32) &&& 31)) &&& (1 : Int32)) = (0 : Int32) then (0 : Int32) else (1 : Int32)))) 2 (nar .boolean (if (((Int32.ofNat k.val) >>> ((2 : Int32) &&& 31)) &&& (1 : Int32)) = (0 : Int32) then (0 : Int32) else (1 : Int32)))) 3 (nar .boolean (if (((Int32.ofNat k.val) >>> ((3 : Int32) &&& 31)) &&& (1 : Int32)) = (0 : Int32) then (0 : Int32) else (1 : Int32)))) 4 (nar .boolean (if (((Int32.ofNat k.val) >>> ((4 : Int32) &&& 31)) &&& (1 : Int32)) = (0 : Int32) then (0 : Int32) else (1 : Int32)))) 5 (nar .boolean (if (((Int32.ofNat k.val) >>> ((5 : Int32) &&& 31)) &&& (1 : Int32)) = (0 : Int32) then (0 : Int32) else (1 : Int32)))) 6) 3 = (0 : Int32)) ∧ ¬ (f3 0 (4 : Int32) (Int32.ofNat k.val + (1 : Int32)) 6 (own_W (own_upd (own_upd (own_upd (own_upd (own_upd (own_upd (fun _ => 0) 0 (nar .boolean (if (((Int32.ofNat k.val) >>> ((0 : Int32) &&& 31)) &&& (1 : Int32)) = (0 : Int32) then (0 : Int32) else (1 : Int32)))) 1 (nar .boolean (if (((Int32.ofNat k.val) >>> ((1 : Int32) &&& 31)) &&& (1 : Int32)) = (0 : Int32) then (0 : Int32) else (1 : Int32)))) 2 (nar .boolean (if (((Int32.ofNat k.val) >>> ((2 : Int32) &&& 31)) &&& (1 : Int32)) = (0 : Int32) then (0 : Int32) else (1 : Int32)))) 3 (nar .boolean (if (((Int32.ofNat k.val) >>> ((3 : Int32) &&& 31)) &&& (1 : Int32)) = (0 : Int32) then (0 : Int32) else (1 : Int32)))) 4 (nar .boolean (if (((Int32.ofNat k.val) >>> ((4 : Int32) &&& 31)) &&& (1 : Int32)) = (0 : Int32) then (0 : Int32) else (1 : Int32)))) 5 (nar .boolean (if (((Int32.ofNat k.val) >>> ((5 : Int32) &&& 31)) &&& (1 : Int32)) = (0 : Int32) then (0 : Int32) else (1 : Int32)))) 6) 4 = (0 : Int32)) ∧ ¬ (f3 0 (5 : Int32) (Int32.ofNat k.val + (1 : Int32)) 6 (own_W (own_upd (own_upd (own_upd (own_upd (own_upd (own_upd (fun _ => 0) 0 (nar .boolean (if (((Int32.ofNat k.val) >>> ((0 : Int32) &&& 31)) &&& (1 : Int32)) = (0 : Int32) then (0 : Int32) else (1 : Int32)))) 1 (nar .boolean (if (((Int32.ofNat k.val) >>> ((1 : Int32) &&& 31)) &&& (1 : Int32)) = (0 : Int32) then (0 : Int32) else (1 : Int32)))) 2 (nar .boolean (if (((Int32.ofNat k.val) >>> ((2 : Int32) &&& 31)) &&& (1 : Int32)) = (0 : Int32) then (0 : Int32) else (1 : Int32)))) 3 (nar .boolean (if (((Int32.ofNat k.val) >>> ((3 : Int32) &&& 31)) &&& (1 : Int32)) = (0 : Int32) then (0 : Int32) else (1 : Int32)))) 4 (nar .boolean (if (((Int32.ofNat k.val) >>> ((4 : Int32) &&& 31)) &&& (1 : Int32)) = (0 : Int32) then (0 : Int32) else (1 : Int32)))) 5 (nar .boolean (if (((Int32.ofNat k.val) >>> ((5 : Int32) &&& 31)) &&& (1 : Int32)) = (0 : Int32) then (0 : Int32) else (1 : Int32)))) 6) 5 = (0 : Int32)) := by decide +kernel
theorem pn_0 : plainName "com/example/surety/surety/DecompositionAdvancePinLaw" = true := by first | (simp [plainName, overriddenIn]; done) | decide +kernel
theorem ef_rm0 (m : MethodId) (x0 : Int32) (x1 : Int32) : entryFrame m #[(.int x0), (.int x1)] maxLocals = mkF m 0 #[.val (.int x0), .val (.int x1), .unset, .unset, .unset, .unset, .unset, .unset, .unset] [] := by first | (simp [entryFrame, mkF, argsToLocals, Value.category, maxLocals]; done) | rfl
def Q0 (n0 : Nat) (v : Option Value) (h : Heap) (L : List Loc) : Prop := v = some (.int 1) ∧ Fr n0 L
set_option maxRecDepth 65536 in
set_option maxHeartbeats 40000000 in
theorem rm0 (l : Launch) (Z : State) (a0 : Array Value) (hw : ∀ d ∈ tables_1, d.before a0 Z = true) (ws : List Jvm.Cond) (p0 : Int32) (p1 : Int32) (h0 : Heap) (n0 : Nat) (Z0 : n0 ≤ h0.size) :
    MetFree l x (head1 (Jvm.Cond.code x code maxLocals ret :: ws) room_1) (fun a U => a = #[(.int p0), (.int p1)] ∧ Z.Warmed39 U.vm ∧ U.heap = h0) (fun _ _ _ _ _ => True) (fun _ U o U' => ∃ v L, o = .returned v ∧ Q0 n0 v U'.heap L ∧ FrameEnd U o U' L room_1.cells room_1.slots) := by
  refine MetFree.of_bodySF (plainFor_of_name pn_0) hisR ?_
  intro p e s m args below meth c s₁ Bd hml0 hP hK
  obtain ⟨rfl, hZ, hh⟩ := hP
  have hx := Bd.exec
  have hby := Bd.bytes
  have hml : c.maxLocals = 9 := hml0
  have hown : s.vm.findClass "com/example/surety/surety/DecompositionAdvancePinLaw" = some m.cls := findClass_of_methodNamed Bd.named
  have hnm := (name_of_methodNamed Bd.named Bd.method).1
  have hlk : meth.locks = false := BodyLoose.notSynchronized Bd
  have X0 : Stand p l e room_1 s m #[(.int p0), (.int p1)] below meth c s₁ [] 0 0 := Stand.of_body Bd
  have e0 : s₁.heap = h0 := by rw [← hh, Bd.state]; rfl
  have N0 := Fr.nil n0
  have K0 : Keep h0 h0 [] := Keep.refl _ _
  show Goes p e below s (Q0 n0) room_1.cells room_1.slots (s₁.setTop (entryFrame m #[(.int p0), (.int p1)] maxLocals))
  rw [ef_rm0]
  show Goes p e below s _ _ _ (s₁.setTop (mkF m 0 #[.val (.int p0), .val (.int p1), .unset, .unset, .unset, .unset, .unset, .unset, .unset] []))
  refine Goes.go (fun _ kst => XS.iconst X0.here hx rfl (hb hby at_0) kst) ?_
  show Goes p e below s _ _ _ (s₁.setTop (mkF m 1 #[.val (.int p0), .val (.int p1), .unset, .unset, .unset, .unset, .unset, .unset, .unset] [(.int (1 : Int32))]))
  refine Goes.go (fun _ kst => XS.iloadN X0.here hx rfl (hb hby at_1) rfl  kst) ?_
  show Goes p e below s _ _ _ (s₁.setTop (mkF m 2 #[.val (.int p0), .val (.int p1), .unset, .unset, .unset, .unset, .unset, .unset, .unset] [(.int p0), (.int (1 : Int32))]))
  refine Goes.go (fun _ kst => X0.ldcInt hx hown (mvT hZ (hw _ (List.mem_of_getElem? (i := 0) rfl))) (g := (mkF m 2 #[.val (.int p0), .val (.int p1), .unset, .unset, .unset, .unset, .unset, .unset, .unset] [(.int p0), (.int (1 : Int32))])) rfl (hb hby at_2) _ kst) ?_
  show Goes p e below s _ _ _ (s₁.setTop (mkF m 4 #[.val (.int p0), .val (.int p1), .unset, .unset, .unset, .unset, .unset, .unset, .unset] [(.int (2147483647 : Int32)), (.int p0), (.int (1 : Int32))]))
  refine Goes.go (fun _ kst => XS.iand X0.here hx rfl (hb hby at_4) rfl kst) ?_
  show Goes p e below s _ _ _ (s₁.setTop (mkF m 5 #[.val (.int p0), .val (.int p1), .unset, .unset, .unset, .unset, .unset, .unset, .unset] [(.int (p0 &&& (2147483647 : Int32))), (.int (1 : Int32))]))
  refine Goes.go (fun _ kst => XS.bipush X0.here hx rfl (hb hby at_5) kst) ?_
  show Goes p e below s _ _ _ (s₁.setTop (mkF m 7 #[.val (.int p0), .val (.int p1), .unset, .unset, .unset, .unset, .unset, .unset, .unset] [(.int (6 : Int32)), (.int (p0 &&& (2147483647 : Int32))), (.int (1 : Int32))]))
  refine Goes.go (fun _ kst => own_irem X0.here hx rfl (hb hby at_7) rfl (by decide) kst) ?_
  show Goes p e below s _ _ _ (s₁.setTop (mkF m 8 #[.val (.int p0), .val (.int p1), .unset, .unset, .unset, .unset, .unset, .unset, .unset] [(.int ((p0 &&& (2147483647 : Int32)) % (6 : Int32))), (.int (1 : Int32))]))
  refine Goes.go (fun _ kst => XS.iadd X0.here hx rfl (hb hby at_8) rfl kst) ?_
  show Goes p e below s _ _ _ (s₁.setTop (mkF m 9 #[.val (.int p0), .val (.int p1), .unset, .unset, .unset, .unset, .unset, .unset, .unset] [(.int ((1 : Int32) + ((p0 &&& (2147483647 : Int32)) % (6 : Int32))))]))
  refine Goes.go (fun _ kst => XS.istoreN X0.here hx rfl (hb hby at_9) rfl (l' := #[.val (.int p0), .val (.int p1), .val (.int ((1 : Int32) + ((p0 &&& (2147483647 : Int32)) % (6 : Int32)))), .unset, .unset, .unset, .unset, .unset, .unset]) rfl kst) ?_
  obtain ⟨n, hn, en⟩ := own_modN p0 6 (by decide) (by decide)
  have hn6 : n = 0 ∨ n = 1 ∨ n = 2 ∨ n = 3 ∨ n = 4 ∨ n = 5 := by omega
  rcases hn6 with rfl | rfl | rfl | rfl | rfl | rfl
  · rw [show ((1 : Int32) + ((p0 &&& (2147483647 : Int32)) % (6 : Int32))) = (1 : Int32) from by rw [show ((p0 &&& (2147483647 : Int32)) % (6 : Int32)) = Int32.ofNat 0 from en]; rfl]
    show Goes p e below s _ _ _ (s₁.setTop (mkF m 10 #[.val (.int p0), .val (.int p1), .val (.int (1 : Int32)), .unset, .unset, .unset, .unset, .unset, .unset] []))
    refine Goes.go (fun _ kst => XS.iconst X0.here hx rfl (hb hby at_10) kst) ?_
    show Goes p e below s _ _ _ (s₁.setTop (mkF m 11 #[.val (.int p0), .val (.int p1), .val (.int (1 : Int32)), .unset, .unset, .unset, .unset, .unset, .unset] [(.int (1 : Int32))]))
    refine Goes.go (fun _ kst => XS.iloadN X0.here hx rfl (hb hby at_11) rfl  kst) ?_
    show Goes p e below s _ _ _ (s₁.setTop (mkF m 12 #[.val (.int p0), .val (.int p1), .val (.int (1 : Int32)), .unset, .unset, .unset, .unset, .unset, .unset] [(.int (1 : Int32)), (.int (1 : Int32))]))
    refine Goes.go (fun _ kst => XS.ishl X0.here hx rfl (hb hby at_12) rfl kst) ?_
    show Goes p e below s _ _ _ (s₁.setTop (mkF m 13 #[.val (.int p0), .val (.int p1), .val (.int (1 : Int32)), .unset, .unset, .unset, .unset, .unset, .unset] [(.int ((1 : Int32) <<< ((1 : Int32) &&& 31)))]))
    refine Goes.go (fun _ kst => XS.iconst X0.here hx rfl (hb hby at_13) kst) ?_
    show Goes p e below s _ _ _ (s₁.setTop (mkF m 14 #[.val (.int p0), .val (.int p1), .val (.int (1 : Int32)), .unset, .unset, .unset, .unset, .unset, .unset] [(.int (1 : Int32)), (.int ((1 : Int32) <<< ((1 : Int32) &&& 31)))]))
    refine Goes.go (fun _ kst => XS.isub X0.here hx rfl (hb hby at_14) rfl kst) ?_
    rw [show (((1 : Int32) <<< ((1 : Int32) &&& 31)) - (1 : Int32)) = (1 : Int32) from by decide]
    show Goes p e below s _ _ _ (s₁.setTop (mkF m 15 #[.val (.int p0), .val (.int p1), .val (.int (1 : Int32)), .unset, .unset, .unset, .unset, .unset, .unset] [(.int (1 : Int32))]))
    refine Goes.go (fun _ kst => XS.istoreN X0.here hx rfl (hb hby at_15) rfl (l' := #[.val (.int p0), .val (.int p1), .val (.int (1 : Int32)), .val (.int (1 : Int32)), .unset, .unset, .unset, .unset, .unset]) rfl kst) ?_
    show Goes p e below s _ _ _ (s₁.setTop (mkF m 16 #[.val (.int p0), .val (.int p1), .val (.int (1 : Int32)), .val (.int (1 : Int32)), .unset, .unset, .unset, .unset, .unset] []))
    refine Goes.go (fun _ kst => XS.iloadN X0.here hx rfl (hb hby at_16) rfl  kst) ?_
    show Goes p e below s _ _ _ (s₁.setTop (mkF m 17 #[.val (.int p0), .val (.int p1), .val (.int (1 : Int32)), .val (.int (1 : Int32)), .unset, .unset, .unset, .unset, .unset] [(.int p1)]))
    refine Goes.go (fun _ kst => X0.ldcInt hx hown (mvT hZ (hw _ (List.mem_of_getElem? (i := 0) rfl))) (g := (mkF m 17 #[.val (.int p0), .val (.int p1), .val (.int (1 : Int32)), .val (.int (1 : Int32)), .unset, .unset, .unset, .unset, .unset] [(.int p1)])) rfl (hb hby at_17) _ kst) ?_
    show Goes p e below s _ _ _ (s₁.setTop (mkF m 19 #[.val (.int p0), .val (.int p1), .val (.int (1 : Int32)), .val (.int (1 : Int32)), .unset, .unset, .unset, .unset, .unset] [(.int (2147483647 : Int32)), (.int p1)]))
    refine Goes.go (fun _ kst => XS.iand X0.here hx rfl (hb hby at_19) rfl kst) ?_
    show Goes p e below s _ _ _ (s₁.setTop (mkF m 20 #[.val (.int p0), .val (.int p1), .val (.int (1 : Int32)), .val (.int (1 : Int32)), .unset, .unset, .unset, .unset, .unset] [(.int (p1 &&& (2147483647 : Int32)))]))
    refine Goes.go (fun _ kst => XS.iloadN X0.here hx rfl (hb hby at_20) rfl  kst) ?_
    show Goes p e below s _ _ _ (s₁.setTop (mkF m 21 #[.val (.int p0), .val (.int p1), .val (.int (1 : Int32)), .val (.int (1 : Int32)), .unset, .unset, .unset, .unset, .unset] [(.int (1 : Int32)), (.int (p1 &&& (2147483647 : Int32)))]))
    refine Goes.go (fun _ kst => own_irem X0.here hx rfl (hb hby at_21) rfl (by decide) kst) ?_
    obtain ⟨kk, hkk, ekk⟩ := own_modN p1 1 (by decide) (by decide)
    have hT := own_t1 ⟨kk, hkk⟩
    dsimp only at hT
    obtain ⟨hfz, hall, gg0, gg1, gg2, gg3, gg4, gg5⟩ := hT
    rw [show ((p1 &&& (2147483647 : Int32)) % (1 : Int32)) = Int32.ofNat kk from ekk]
    show Goes p e below s _ _ _ (s₁.setTop (mkF m 22 #[.val (.int p0), .val (.int p1), .val (.int (1 : Int32)), .val (.int (1 : Int32)), .unset, .unset, .unset, .unset, .unset] [(.int (Int32.ofNat kk))]))
    refine Goes.go (fun _ kst => XS.istore X0.here hx rfl (hb hby at_22) rfl (l' := #[.val (.int p0), .val (.int p1), .val (.int (1 : Int32)), .val (.int (1 : Int32)), .val (.int (Int32.ofNat kk)), .unset, .unset, .unset, .unset]) rfl kst) ?_
    show Goes p e below s _ _ _ (s₁.setTop (mkF m 24 #[.val (.int p0), .val (.int p1), .val (.int (1 : Int32)), .val (.int (1 : Int32)), .val (.int (Int32.ofNat kk)), .unset, .unset, .unset, .unset] []))
    refine Goes.go (fun _ kst => XS.iloadN X0.here hx rfl (hb hby at_24) rfl  kst) ?_
    show Goes p e below s _ _ _ (s₁.setTop (mkF m 25 #[.val (.int p0), .val (.int p1), .val (.int (1 : Int32)), .val (.int (1 : Int32)), .val (.int (Int32.ofNat kk)), .unset, .unset, .unset, .unset] [(.int (1 : Int32))]))
    obtain ⟨T1, h1, X1, e1, E1, A1, EA1, st1⟩ := own_newA X0 hx hZ (hw _ (List.mem_of_getElem? (i := 1) rfl)) e0 (g := (mkF m 25 #[.val (.int p0), .val (.int p1), .val (.int (1 : Int32)), .val (.int (1 : Int32)), .val (.int (Int32.ofNat kk)), .unset, .unset, .unset, .unset] [(.int (1 : Int32))])) rfl (hb hby at_25) rfl (n := 1) rfl (cap := 1) (Nat.le_refl _) (by decide) (by decide) (by decide) (by decide) (by decide) (by decide : _ = "[Z")
    obtain ⟨b1, g1⟩ : ∃ z, z = h0.size := ⟨_, rfl⟩
    rw [← g1] at A1 EA1 st1
    have gb1 : n0 ≤ b1 := Nat.le_trans Z0 (Nat.le_of_eq g1.symm)
    have sb1 : h0.size ≤ b1 := Nat.le_trans K0.1 (Nat.le_of_eq g1.symm)
    have Z1 := Nat.le_trans Z0 E1.1
    have K1 := Keep.ext K0 E1
    refine Goes.go st1 ?_
    show Goes p e below s _ _ _ (T1.setTop (mkF m 27 #[.val (.int p0), .val (.int p1), .val (.int (1 : Int32)), .val (.int (1 : Int32)), .val (.int (Int32.ofNat kk)), .unset, .unset, .unset, .unset] [(.ref b1)]))
    refine Goes.go (fun _ kst => XS.astore X1.here hx rfl (hb hby at_27) rfl rfl (l' := #[.val (.int p0), .val (.int p1), .val (.int (1 : Int32)), .val (.int (1 : Int32)), .val (.int (Int32.ofNat kk)), .val (.ref b1), .unset, .unset, .unset]) rfl kst) ?_
    show Goes p e below s _ _ _ (T1.setTop (mkF m 29 #[.val (.int p0), .val (.int p1), .val (.int (1 : Int32)), .val (.int (1 : Int32)), .val (.int (Int32.ofNat kk)), .val (.ref b1), .unset, .unset, .unset] []))
    refine Goes.go (fun _ kst => XS.aload X1.here hx rfl (hb hby at_29) rfl rfl  kst) ?_
    show Goes p e below s _ _ _ (T1.setTop (mkF m 31 #[.val (.int p0), .val (.int p1), .val (.int (1 : Int32)), .val (.int (1 : Int32)), .val (.int (Int32.ofNat kk)), .val (.ref b1), .unset, .unset, .unset] [(.ref b1)]))
    refine Goes.go (fun _ kst => XS.iconst X1.here hx rfl (hb hby at_31) kst) ?_
    show Goes p e below s _ _ _ (T1.setTop (mkF m 32 #[.val (.int p0), .val (.int p1), .val (.int (1 : Int32)), .val (.int (1 : Int32)), .val (.int (Int32.ofNat kk)), .val (.ref b1), .unset, .unset, .unset] [(.int (0 : Int32)), (.ref b1)]))
    refine Goes.go (fun _ kst => XS.iload X1.here hx rfl (hb hby at_32) rfl  kst) ?_
    show Goes p e below s _ _ _ (T1.setTop (mkF m 34 #[.val (.int p0), .val (.int p1), .val (.int (1 : Int32)), .val (.int (1 : Int32)), .val (.int (Int32.ofNat kk)), .val (.ref b1), .unset, .unset, .unset] [(.int (Int32.ofNat kk)), (.int (0 : Int32)), (.ref b1)]))
    obtain ⟨_, _, ⟨T2, L2, k2, n2⟩, -, X2, ⟨Lc2, hQ2, l2, y2, z2⟩, st2⟩ := Jvm.LawKit.callS X1 hx (y := (⟨"com/example/surety/surety/DecompositionAdvancePinLaw", "set", "([ZII)V"⟩ : MethodName)) hown (mvT hZ (hw _ (List.mem_of_getElem? (i := 2) rfl))) (mvT hZ (hw _ (List.mem_of_getElem? (i := 3) rfl))) (mvT hZ (hw _ (List.mem_of_getElem? (i := 4) rfl))) (mvT hZ (hw _ (List.mem_of_getElem? (i := 5) rfl))) (by decide) (backOf (W := 0) (rm1a l Z a0 hw [] b1 (0 : Int32) (Int32.ofNat kk) 1 (fun _ => 0) 0 h1 n0 Z1 A1 gb1 rfl (by decide)) hZ (hw _ (List.mem_of_getElem? (i := 5) rfl)) (hw _ (List.mem_of_getElem? (i := 4) rfl)) (by decide) (by decide)) (g := (mkF m 34 #[.val (.int p0), .val (.int p1), .val (.int (1 : Int32)), .val (.int (1 : Int32)), .val (.int (Int32.ofNat kk)), .val (.ref b1), .unset, .unset, .unset] [(.int (Int32.ofNat kk)), (.int (0 : Int32)), (.ref b1)])) rfl (by rw [hml]; rfl) (argsL := [(.ref b1), (.int (0 : Int32)), (.int (Int32.ofNat kk))]) (rest := []) (lenOf pd_0 rfl) rfl (by show 2 * 0 + _ ≤ _; exact Nat.le_of_eq rfl) (hb hby at_34) (fun _ _ => ⟨rfl, e1, (by decide : 1 + 0 ≤ _), (by decide : 1 + 0 ≤ _)⟩)
    dsimp only [Pt.U, Pt.locs, Pt.cells, Pt.slots] at X2 l2 y2 z2 st2 hQ2
    subst l2 y2 z2
    obtain ⟨h2, e2⟩ : ∃ z, T2.heap = z := ⟨_, rfl⟩
    rw [e2] at hQ2
    obtain ⟨rfl, N2q, Kq2, G2_0⟩ := hQ2
    have N2 := Fr.app N0 N2q
    have K2 := Keep.trans K1 Kq2 (allS (Or.inr sb1) all0)
    have Z2 := Nat.le_trans Z1 Kq2.1
    refine Goes.go st2 ?_
    show Goes p e below s _ _ _ (T2.setTop (mkF m 37 #[.val (.int p0), .val (.int p1), .val (.int (1 : Int32)), .val (.int (1 : Int32)), .val (.int (Int32.ofNat kk)), .val (.ref b1), .unset, .unset, .unset] []))
    refine Goes.go (fun _ kst => XS.aload X2.here hx rfl (hb hby at_37) rfl rfl  kst) ?_
    show Goes p e below s _ _ _ (T2.setTop (mkF m 39 #[.val (.int p0), .val (.int p1), .val (.int (1 : Int32)), .val (.int (1 : Int32)), .val (.int (Int32.ofNat kk)), .val (.ref b1), .unset, .unset, .unset] [(.ref b1)]))
    refine Goes.go (fun _ kst => XS.iconst X2.here hx rfl (hb hby at_39) kst) ?_
    show Goes p e below s _ _ _ (T2.setTop (mkF m 40 #[.val (.int p0), .val (.int p1), .val (.int (1 : Int32)), .val (.int (1 : Int32)), .val (.int (Int32.ofNat kk)), .val (.ref b1), .unset, .unset, .unset] [(.int (1 : Int32)), (.ref b1)]))
    refine Goes.go (fun _ kst => XS.iload X2.here hx rfl (hb hby at_40) rfl  kst) ?_
    show Goes p e below s _ _ _ (T2.setTop (mkF m 42 #[.val (.int p0), .val (.int p1), .val (.int (1 : Int32)), .val (.int (1 : Int32)), .val (.int (Int32.ofNat kk)), .val (.ref b1), .unset, .unset, .unset] [(.int (Int32.ofNat kk)), (.int (1 : Int32)), (.ref b1)]))
    obtain ⟨_, _, ⟨T3, L3, k3, n3⟩, -, X3, ⟨Lc3, hQ3, l3, y3, z3⟩, st3⟩ := Jvm.LawKit.callS X2 hx (y := (⟨"com/example/surety/surety/DecompositionAdvancePinLaw", "set", "([ZII)V"⟩ : MethodName)) hown (mvT hZ (hw _ (List.mem_of_getElem? (i := 2) rfl))) (mvT hZ (hw _ (List.mem_of_getElem? (i := 3) rfl))) (mvT hZ (hw _ (List.mem_of_getElem? (i := 4) rfl))) (mvT hZ (hw _ (List.mem_of_getElem? (i := 5) rfl))) (by decide) (backOf (W := 0) (rm1b l Z a0 hw [] b1 (1 : Int32) (Int32.ofNat kk) 1 (own_upd (fun _ => 0) 0 (nar .boolean (if (((Int32.ofNat kk) >>> ((0 : Int32) &&& 31)) &&& (1 : Int32)) = (0 : Int32) then (0 : Int32) else (1 : Int32)))) 1 h2 n0 Z2 G2_0 gb1 rfl (by decide) (by decide)) hZ (hw _ (List.mem_of_getElem? (i := 5) rfl)) (hw _ (List.mem_of_getElem? (i := 4) rfl)) (by decide) (by decide)) (g := (mkF m 42 #[.val (.int p0), .val (.int p1), .val (.int (1 : Int32)), .val (.int (1 : Int32)), .val (.int (Int32.ofNat kk)), .val (.ref b1), .unset, .unset, .unset] [(.int (Int32.ofNat kk)), (.int (1 : Int32)), (.ref b1)])) rfl (by rw [hml]; rfl) (argsL := [(.ref b1), (.int (1 : Int32)), (.int (Int32.ofNat kk))]) (rest := []) (lenOf pd_0 rfl) rfl (by show 2 * 0 + _ ≤ _; exact Nat.le_of_eq rfl) (hb hby at_42) (fun _ _ => ⟨rfl, e2, (by decide : 1 + 0 ≤ _), (by decide : 1 + 0 ≤ _)⟩)
    dsimp only [Pt.U, Pt.locs, Pt.cells, Pt.slots] at X3 l3 y3 z3 st3 hQ3
    subst l3 y3 z3
    obtain ⟨rfl, N3q, e3⟩ := hQ3
    have N3 := Fr.app N2 N3q
    refine Goes.go st3 ?_
    show Goes p e below s _ _ _ (T3.setTop (mkF m 45 #[.val (.int p0), .val (.int p1), .val (.int (1 : Int32)), .val (.int (1 : Int32)), .val (.int (Int32.ofNat kk)), .val (.ref b1), .unset, .unset, .unset] []))
    refine Goes.go (fun _ kst => XS.aload X3.here hx rfl (hb hby at_45) rfl rfl  kst) ?_
    show Goes p e below s _ _ _ (T3.setTop (mkF m 47 #[.val (.int p0), .val (.int p1), .val (.int (1 : Int32)), .val (.int (1 : Int32)), .val (.int (Int32.ofNat kk)), .val (.ref b1), .unset, .unset, .unset] [(.ref b1)]))
    refine Goes.go (fun _ kst => XS.iconst X3.here hx rfl (hb hby at_47) kst) ?_
    show Goes p e below s _ _ _ (T3.setTop (mkF m 48 #[.val (.int p0), .val (.int p1), .val (.int (1 : Int32)), .val (.int (1 : Int32)), .val (.int (Int32.ofNat kk)), .val (.ref b1), .unset, .unset, .unset] [(.int (2 : Int32)), (.ref b1)]))
    refine Goes.go (fun _ kst => XS.iload X3.here hx rfl (hb hby at_48) rfl  kst) ?_
    show Goes p e below s _ _ _ (T3.setTop (mkF m 50 #[.val (.int p0), .val (.int p1), .val (.int (1 : Int32)), .val (.int (1 : Int32)), .val (.int (Int32.ofNat kk)), .val (.ref b1), .unset, .unset, .unset] [(.int (Int32.ofNat kk)), (.int (2 : Int32)), (.ref b1)]))
    obtain ⟨_, _, ⟨T4, L4, k4, n4⟩, -, X4, ⟨Lc4, hQ4, l4, y4, z4⟩, st4⟩ := Jvm.LawKit.callS X3 hx (y := (⟨"com/example/surety/surety/DecompositionAdvancePinLaw", "set", "([ZII)V"⟩ : MethodName)) hown (mvT hZ (hw _ (List.mem_of_getElem? (i := 2) rfl))) (mvT hZ (hw _ (List.mem_of_getElem? (i := 3) rfl))) (mvT hZ (hw _ (List.mem_of_getElem? (i := 4) rfl))) (mvT hZ (hw _ (List.mem_of_getElem? (i := 5) rfl))) (by decide) (backOf (W := 0) (rm1b l Z a0 hw [] b1 (2 : Int32) (Int32.ofNat kk) 1 (own_upd (fun _ => 0) 0 (nar .boolean (if (((Int32.ofNat kk) >>> ((0 : Int32) &&& 31)) &&& (1 : Int32)) = (0 : Int32) then (0 : Int32) else (1 : Int32)))) 2 h2 n0 Z2 G2_0 gb1 rfl (by decide) (by decide)) hZ (hw _ (List.mem_of_getElem? (i := 5) rfl)) (hw _ (List.mem_of_getElem? (i := 4) rfl)) (by decide) (by decide)) (g := (mkF m 50 #[.val (.int p0), .val (.int p1), .val (.int (1 : Int32)), .val (.int (1 : Int32)), .val (.int (Int32.ofNat kk)), .val (.ref b1), .unset, .unset, .unset] [(.int (Int32.ofNat kk)), (.int (2 : Int32)), (.ref b1)])) rfl (by rw [hml]; rfl) (argsL := [(.ref b1), (.int (2 : Int32)), (.int (Int32.ofNat kk))]) (rest := []) (lenOf pd_0 rfl) rfl (by show 2 * 0 + _ ≤ _; exact Nat.le_of_eq rfl) (hb hby at_50) (fun _ _ => ⟨rfl, e3, (by decide : 1 + 0 ≤ _), (by decide : 1 + 0 ≤ _)⟩)
    dsimp only [Pt.U, Pt.locs, Pt.cells, Pt.slots] at X4 l4 y4 z4 st4 hQ4
    subst l4 y4 z4
    obtain ⟨rfl, N4q, e4⟩ := hQ4
    have N4 := Fr.app N3 N4q
    refine Goes.go st4 ?_
    show Goes p e below s _ _ _ (T4.setTop (mkF m 53 #[.val (.int p0), .val (.int p1), .val (.int (1 : Int32)), .val (.int (1 : Int32)), .val (.int (Int32.ofNat kk)), .val (.ref b1), .unset, .unset, .unset] []))
    refine Goes.go (fun _ kst => XS.aload X4.here hx rfl (hb hby at_53) rfl rfl  kst) ?_
    show Goes p e below s _ _ _ (T4.setTop (mkF m 55 #[.val (.int p0), .val (.int p1), .val (.int (1 : Int32)), .val (.int (1 : Int32)), .val (.int (Int32.ofNat kk)), .val (.ref b1), .unset, .unset, .unset] [(.ref b1)]))
    refine Goes.go (fun _ kst => XS.iconst X4.here hx rfl (hb hby at_55) kst) ?_
    show Goes p e below s _ _ _ (T4.setTop (mkF m 56 #[.val (.int p0), .val (.int p1), .val (.int (1 : Int32)), .val (.int (1 : Int32)), .val (.int (Int32.ofNat kk)), .val (.ref b1), .unset, .unset, .unset] [(.int (3 : Int32)), (.ref b1)]))
    refine Goes.go (fun _ kst => XS.iload X4.here hx rfl (hb hby at_56) rfl  kst) ?_
    show Goes p e below s _ _ _ (T4.setTop (mkF m 58 #[.val (.int p0), .val (.int p1), .val (.int (1 : Int32)), .val (.int (1 : Int32)), .val (.int (Int32.ofNat kk)), .val (.ref b1), .unset, .unset, .unset] [(.int (Int32.ofNat kk)), (.int (3 : Int32)), (.ref b1)]))
    obtain ⟨_, _, ⟨T5, L5, k5, n5⟩, -, X5, ⟨Lc5, hQ5, l5, y5, z5⟩, st5⟩ := Jvm.LawKit.callS X4 hx (y := (⟨"com/example/surety/surety/DecompositionAdvancePinLaw", "set", "([ZII)V"⟩ : MethodName)) hown (mvT hZ (hw _ (List.mem_of_getElem? (i := 2) rfl))) (mvT hZ (hw _ (List.mem_of_getElem? (i := 3) rfl))) (mvT hZ (hw _ (List.mem_of_getElem? (i := 4) rfl))) (mvT hZ (hw _ (List.mem_of_getElem? (i := 5) rfl))) (by decide) (backOf (W := 0) (rm1b l Z a0 hw [] b1 (3 : Int32) (Int32.ofNat kk) 1 (own_upd (fun _ => 0) 0 (nar .boolean (if (((Int32.ofNat kk) >>> ((0 : Int32) &&& 31)) &&& (1 : Int32)) = (0 : Int32) then (0 : Int32) else (1 : Int32)))) 3 h2 n0 Z2 G2_0 gb1 rfl (by decide) (by decide)) hZ (hw _ (List.mem_of_getElem? (i := 5) rfl)) (hw _ (List.mem_of_getElem? (i := 4) rfl)) (by decide) (by decide)) (g := (mkF m 58 #[.val (.int p0), .val (.int p1), .val (.int (1 : Int32)), .val (.int (1 : Int32)), .val (.int (Int32.ofNat kk)), .val (.ref b1), .unset, .unset, .unset] [(.int (Int32.ofNat kk)), (.int (3 : Int32)), (.ref b1)])) rfl (by rw [hml]; rfl) (argsL := [(.ref b1), (.int (3 : Int32)), (.int (Int32.ofNat kk))]) (rest := []) (lenOf pd_0 rfl) rfl (by show 2 * 0 + _ ≤ _; exact Nat.le_of_eq rfl) (hb hby at_58) (fun _ _ => ⟨rfl, e4, (by decide : 1 + 0 ≤ _), (by decide : 1 + 0 ≤ _)⟩)
    dsimp only [Pt.U, Pt.locs, Pt.cells, Pt.slots] at X5 l5 y5 z5 st5 hQ5
    subst l5 y5 z5
    obtain ⟨rfl, N5q, e5⟩ := hQ5
    have N5 := Fr.app N4 N5q
    refine Goes.go st5 ?_
    show Goes p e below s _ _ _ (T5.setTop (mkF m 61 #[.val (.int p0), .val (.int p1), .val (.int (1 : Int32)), .val (.int (1 : Int32)), .val (.int (Int32.ofNat kk)), .val (.ref b1), .unset, .unset, .unset] []))
    refine Goes.go (fun _ kst => XS.aload X5.here hx rfl (hb hby at_61) rfl rfl  kst) ?_
    show Goes p e below s _ _ _ (T5.setTop (mkF m 63 #[.val (.int p0), .val (.int p1), .val (.int (1 : Int32)), .val (.int (1 : Int32)), .val (.int (Int32.ofNat kk)), .val (.ref b1), .unset, .unset, .unset] [(.ref b1)]))
    refine Goes.go (fun _ kst => XS.iconst X5.here hx rfl (hb hby at_63) kst) ?_
    show Goes p e below s _ _ _ (T5.setTop (mkF m 64 #[.val (.int p0), .val (.int p1), .val (.int (1 : Int32)), .val (.int (1 : Int32)), .val (.int (Int32.ofNat kk)), .val (.ref b1), .unset, .unset, .unset] [(.int (4 : Int32)), (.ref b1)]))
    refine Goes.go (fun _ kst => XS.iload X5.here hx rfl (hb hby at_64) rfl  kst) ?_
    show Goes p e below s _ _ _ (T5.setTop (mkF m 66 #[.val (.int p0), .val (.int p1), .val (.int (1 : Int32)), .val (.int (1 : Int32)), .val (.int (Int32.ofNat kk)), .val (.ref b1), .unset, .unset, .unset] [(.int (Int32.ofNat kk)), (.int (4 : Int32)), (.ref b1)]))
    obtain ⟨_, _, ⟨T6, L6, k6, n6⟩, -, X6, ⟨Lc6, hQ6, l6, y6, z6⟩, st6⟩ := Jvm.LawKit.callS X5 hx (y := (⟨"com/example/surety/surety/DecompositionAdvancePinLaw", "set", "([ZII)V"⟩ : MethodName)) hown (mvT hZ (hw _ (List.mem_of_getElem? (i := 2) rfl))) (mvT hZ (hw _ (List.mem_of_getElem? (i := 3) rfl))) (mvT hZ (hw _ (List.mem_of_getElem? (i := 4) rfl))) (mvT hZ (hw _ (List.mem_of_getElem? (i := 5) rfl))) (by decide) (backOf (W := 0) (rm1b l Z a0 hw [] b1 (4 : Int32) (Int32.ofNat kk) 1 (own_upd (fun _ => 0) 0 (nar .boolean (if (((Int32.ofNat kk) >>> ((0 : Int32) &&& 31)) &&& (1 : Int32)) = (0 : Int32) then (0 : Int32) else (1 : Int32)))) 4 h2 n0 Z2 G2_0 gb1 rfl (by decide) (by decide)) hZ (hw _ (List.mem_of_getElem? (i := 5) rfl)) (hw _ (List.mem_of_getElem? (i := 4) rfl)) (by decide) (by decide)) (g := (mkF m 66 #[.val (.int p0), .val (.int p1), .val (.int (1 : Int32)), .val (.int (1 : Int32)), .val (.int (Int32.ofNat kk)), .val (.ref b1), .unset, .unset, .unset] [(.int (Int32.ofNat kk)), (.int (4 : Int32)), (.ref b1)])) rfl (by rw [hml]; rfl) (argsL := [(.ref b1), (.int (4 : Int32)), (.int (Int32.ofNat kk))]) (rest := []) (lenOf pd_0 rfl) rfl (by show 2 * 0 + _ ≤ _; exact Nat.le_of_eq rfl) (hb hby at_66) (fun _ _ => ⟨rfl, e5, (by decide : 1 + 0 ≤ _), (by decide : 1 + 0 ≤ _)⟩)
    dsimp only [Pt.U, Pt.locs, Pt.cells, Pt.slots] at X6 l6 y6 z6 st6 hQ6
    subst l6 y6 z6
    obtain ⟨rfl, N6q, e6⟩ := hQ6
    have N6 := Fr.app N5 N6q
    refine Goes.go st6 ?_
    show Goes p e below s _ _ _ (T6.setTop (mkF m 69 #[.val (.int p0), .val (.int p1), .val (.int (1 : Int32)), .val (.int (1 : Int32)), .val (.int (Int32.ofNat kk)), .val (.ref b1), .unset, .unset, .unset] []))
    refine Goes.go (fun _ kst => XS.aload X6.here hx rfl (hb hby at_69) rfl rfl  kst) ?_
    show Goes p e below s _ _ _ (T6.setTop (mkF m 71 #[.val (.int p0), .val (.int p1), .val (.int (1 : Int32)), .val (.int (1 : Int32)), .val (.int (Int32.ofNat kk)), .val (.ref b1), .unset, .unset, .unset] [(.ref b1)]))
    refine Goes.go (fun _ kst => XS.iconst X6.here hx rfl (hb hby at_71) kst) ?_
    show Goes p e below s _ _ _ (T6.setTop (mkF m 72 #[.val (.int p0), .val (.int p1), .val (.int (1 : Int32)), .val (.int (1 : Int32)), .val (.int (Int32.ofNat kk)), .val (.ref b1), .unset, .unset, .unset] [(.int (5 : Int32)), (.ref b1)]))
    refine Goes.go (fun _ kst => XS.iload X6.here hx rfl (hb hby at_72) rfl  kst) ?_
    show Goes p e below s _ _ _ (T6.setTop (mkF m 74 #[.val (.int p0), .val (.int p1), .val (.int (1 : Int32)), .val (.int (1 : Int32)), .val (.int (Int32.ofNat kk)), .val (.ref b1), .unset, .unset, .unset] [(.int (Int32.ofNat kk)), (.int (5 : Int32)), (.ref b1)]))
    obtain ⟨_, _, ⟨T7, L7, k7, n7⟩, -, X7, ⟨Lc7, hQ7, l7, y7, z7⟩, st7⟩ := Jvm.LawKit.callS X6 hx (y := (⟨"com/example/surety/surety/DecompositionAdvancePinLaw", "set", "([ZII)V"⟩ : MethodName)) hown (mvT hZ (hw _ (List.mem_of_getElem? (i := 2) rfl))) (mvT hZ (hw _ (List.mem_of_getElem? (i := 3) rfl))) (mvT hZ (hw _ (List.mem_of_getElem? (i := 4) rfl))) (mvT hZ (hw _ (List.mem_of_getElem? (i := 5) rfl))) (by decide) (backOf (W := 0) (rm1b l Z a0 hw [] b1 (5 : Int32) (Int32.ofNat kk) 1 (own_upd (fun _ => 0) 0 (nar .boolean (if (((Int32.ofNat kk) >>> ((0 : Int32) &&& 31)) &&& (1 : Int32)) = (0 : Int32) then (0 : Int32) else (1 : Int32)))) 5 h2 n0 Z2 G2_0 gb1 rfl (by decide) (by decide)) hZ (hw _ (List.mem_of_getElem? (i := 5) rfl)) (hw _ (List.mem_of_getElem? (i := 4) rfl)) (by decide) (by decide)) (g := (mkF m 74 #[.val (.int p0), .val (.int p1), .val (.int (1 : Int32)), .val (.int (1 : Int32)), .val (.int (Int32.ofNat kk)), .val (.ref b1), .unset, .unset, .unset] [(.int (Int32.ofNat kk)), (.int (5 : Int32)), (.ref b1)])) rfl (by rw [hml]; rfl) (argsL := [(.ref b1), (.int (5 : Int32)), (.int (Int32.ofNat kk))]) (rest := []) (lenOf pd_0 rfl) rfl (by show 2 * 0 + _ ≤ _; exact Nat.le_of_eq rfl) (hb hby at_74) (fun _ _ => ⟨rfl, e6, (by decide : 1 + 0 ≤ _), (by decide : 1 + 0 ≤ _)⟩)
    dsimp only [Pt.U, Pt.locs, Pt.cells, Pt.slots] at X7 l7 y7 z7 st7 hQ7
    subst l7 y7 z7
    obtain ⟨rfl, N7q, e7⟩ := hQ7
    have N7 := Fr.app N6 N7q
    refine Goes.go st7 ?_
    have An8 := G2_0
    generalize hv_vv : (own_upd (fun _ => 0) 0 (nar .boolean (if (((Int32.ofNat kk) >>> ((0 : Int32) &&& 31)) &&& (1 : Int32)) = (0 : Int32) then (0 : Int32) else (1 : Int32)))) = vv at An8 hfz hall gg0 gg1 gg2 gg3 gg4 gg5
    show Goes p e below s _ _ _ (T7.setTop (mkF m 77 #[.val (.int p0), .val (.int p1), .val (.int (1 : Int32)), .val (.int (1 : Int32)), .val (.int (Int32.ofNat kk)), .val (.ref b1), .unset, .unset, .unset] []))
    refine Goes.go (fun _ kst => XS.aload X7.here hx rfl (hb hby at_77) rfl rfl  kst) ?_
    show Goes p e below s _ _ _ (T7.setTop (mkF m 79 #[.val (.int p0), .val (.int p1), .val (.int (1 : Int32)), .val (.int (1 : Int32)), .val (.int (Int32.ofNat kk)), .val (.ref b1), .unset, .unset, .unset] [(.ref b1)]))
    obtain ⟨_, _, ⟨T9, L9, k9, n9⟩, -, X9, ⟨Lc9, hQ9, l9, y9, z9⟩, st9⟩ := Jvm.LawKit.callS X7 hx (y := (⟨"com/example/surety/surety/Decomposition", "advance", "([Z)Z"⟩ : MethodName)) hown (mvT hZ (hw _ (List.mem_of_getElem? (i := 6) rfl))) (mvT hZ (hw _ (List.mem_of_getElem? (i := 7) rfl))) (mvT hZ (hw _ (List.mem_of_getElem? (i := 8) rfl))) (mvT hZ (hw _ (List.mem_of_getElem? (i := 9) rfl))) (by decide) (backOf (W := 0) (rm2 l Z a0 hw [] b1 1 vv h2 n0 Z2 An8 gb1 hfz) hZ (hw _ (List.mem_of_getElem? (i := 9) rfl)) (hw _ (List.mem_of_getElem? (i := 8) rfl)) (by decide) (by decide)) (g := (mkF m 79 #[.val (.int p0), .val (.int p1), .val (.int (1 : Int32)), .val (.int (1 : Int32)), .val (.int (Int32.ofNat kk)), .val (.ref b1), .unset, .unset, .unset] [(.ref b1)])) rfl (by rw [hml]; rfl) (argsL := [(.ref b1)]) (rest := []) (lenOf pd_1 rfl) rfl (by show 2 * 0 + _ ≤ _; exact Nat.le_of_eq rfl) (hb hby at_79) (fun _ _ => ⟨rfl, e7, (by decide : 1 + 0 ≤ _), (by decide : 1 + 0 ≤ _)⟩)
    dsimp only [Pt.U, Pt.locs, Pt.cells, Pt.slots] at X9 l9 y9 z9 st9 hQ9
    subst l9 y9 z9
    obtain ⟨h9, e9⟩ : ∃ z, T9.heap = z := ⟨_, rfl⟩
    rw [e9] at hQ9
    obtain ⟨rfl, N9q, Kq9, A9⟩ := hQ9
    have N9 := Fr.app N7 N9q
    have K9 := Keep.trans K2 Kq9 (allS (Or.inr sb1) all0)
    have Z9 := Nat.le_trans Z2 Kq9.1
    refine Goes.go st9 ?_
    show Goes p e below s _ _ _ (T9.setTop (mkF m 82 #[.val (.int p0), .val (.int p1), .val (.int (1 : Int32)), .val (.int (1 : Int32)), .val (.int (Int32.ofNat kk)), .val (.ref b1), .unset, .unset, .unset] [(.int (own_all (own_W vv 1) 1 0))]))
    refine Goes.go (fun _ kst => XS.istore X9.here hx rfl (hb hby at_82) rfl (l' := #[.val (.int p0), .val (.int p1), .val (.int (1 : Int32)), .val (.int (1 : Int32)), .val (.int (Int32.ofNat kk)), .val (.ref b1), .val (.int (own_all (own_W vv 1) 1 0)), .unset, .unset]) rfl kst) ?_
    show Goes p e below s _ _ _ (T9.setTop (mkF m 84 #[.val (.int p0), .val (.int p1), .val (.int (1 : Int32)), .val (.int (1 : Int32)), .val (.int (Int32.ofNat kk)), .val (.ref b1), .val (.int (own_all (own_W vv 1) 1 0)), .unset, .unset] []))
    refine Goes.go (fun _ kst => XS.iload X9.here hx rfl (hb hby at_84) rfl  kst) ?_
    show Goes p e below s _ _ _ (T9.setTop (mkF m 86 #[.val (.int p0), .val (.int p1), .val (.int (1 : Int32)), .val (.int (1 : Int32)), .val (.int (Int32.ofNat kk)), .val (.ref b1), .val (.int (own_all (own_W vv 1) 1 0)), .unset, .unset] [(.int (Int32.ofNat kk))]))
    refine Goes.go (fun _ kst => XS.iconst X9.here hx rfl (hb hby at_86) kst) ?_
    show Goes p e below s _ _ _ (T9.setTop (mkF m 87 #[.val (.int p0), .val (.int p1), .val (.int (1 : Int32)), .val (.int (1 : Int32)), .val (.int (Int32.ofNat kk)), .val (.ref b1), .val (.int (own_all (own_W vv 1) 1 0)), .unset, .unset] [(.int (1 : Int32)), (.int (Int32.ofNat kk))]))
    refine Goes.go (fun _ kst => XS.iadd X9.here hx rfl (hb hby at_87) rfl kst) ?_
    show Goes p e below s _ _ _ (T9.setTop (mkF m 88 #[.val (.int p0), .val (.int p1), .val (.int (1 : Int32)), .val (.int (1 : Int32)), .val (.int (Int32.ofNat kk)), .val (.ref b1), .val (.int (own_all (own_W vv 1) 1 0)), .unset, .unset] [(.int ((Int32.ofNat kk) + (1 : Int32)))]))
    refine Goes.go (fun _ kst => XS.istore X9.here hx rfl (hb hby at_88) rfl (l' := #[.val (.int p0), .val (.int p1), .val (.int (1 : Int32)), .val (.int (1 : Int32)), .val (.int (Int32.ofNat kk)), .val (.ref b1), .val (.int (own_all (own_W vv 1) 1 0)), .val (.int ((Int32.ofNat kk) + (1 : Int32))), .unset]) rfl kst) ?_
    show Goes p e below s _ _ _ (T9.setTop (mkF m 90 #[.val (.int p0), .val (.int p1), .val (.int (1 : Int32)), .val (.int (1 : Int32)), .val (.int (Int32.ofNat kk)), .val (.ref b1), .val (.int (own_all (own_W vv 1) 1 0)), .val (.int ((Int32.ofNat kk) + (1 : Int32))), .unset] []))
    refine Goes.go (fun _ kst => XS.aload X9.here hx rfl (hb hby at_90) rfl rfl  kst) ?_
    show Goes p e below s _ _ _ (T9.setTop (mkF m 92 #[.val (.int p0), .val (.int p1), .val (.int (1 : Int32)), .val (.int (1 : Int32)), .val (.int (Int32.ofNat kk)), .val (.ref b1), .val (.int (own_all (own_W vv 1) 1 0)), .val (.int ((Int32.ofNat kk) + (1 : Int32))), .unset] [(.ref b1)]))
    refine Goes.go (own_len X9 hx hZ e9 A9 (g := (mkF m 92 #[.val (.int p0), .val (.int p1), .val (.int (1 : Int32)), .val (.int (1 : Int32)), .val (.int (Int32.ofNat kk)), .val (.ref b1), .val (.int (own_all (own_W vv 1) 1 0)), .val (.int ((Int32.ofNat kk) + (1 : Int32))), .unset] [(.ref b1)])) rfl rfl (hb hby at_92)) ?_
    show Goes p e below s _ _ _ (T9.setTop (mkF m 93 #[.val (.int p0), .val (.int p1), .val (.int (1 : Int32)), .val (.int (1 : Int32)), .val (.int (Int32.ofNat kk)), .val (.ref b1), .val (.int (own_all (own_W vv 1) 1 0)), .val (.int ((Int32.ofNat kk) + (1 : Int32))), .unset] [(.int (1 : Int32))]))
    refine Goes.go (fun _ kst => XS.iloadN X9.here hx rfl (hb hby at_93) rfl  kst) ?_
    show Goes p e below s _ _ _ (T9.setTop (mkF m 94 #[.val (.int p0), .val (.int p1), .val (.int (1 : Int32)), .val (.int (1 : Int32)), .val (.int (Int32.ofNat kk)), .val (.ref b1), .val (.int (own_all (own_W vv 1) 1 0)), .val (.int ((Int32.ofNat kk) + (1 : Int32))), .unset] [(.int (1 : Int32)), (.int (1 : Int32))]))
    have hc94_10 : (1 : Int32) = (1 : Int32) := (by decide)
    refine Goes.go (fun _ kst => XS.icmpNo X9.here hx rfl (hb hby at_94) rfl (teq hc94_10).2 kst) ?_
    show Goes p e below s _ _ _ (T9.setTop (mkF m 97 #[.val (.int p0), .val (.int p1), .val (.int (1 : Int32)), .val (.int (1 : Int32)), .val (.int (Int32.ofNat kk)), .val (.ref b1), .val (.int (own_all (own_W vv 1) 1 0)), .val (.int ((Int32.ofNat kk) + (1 : Int32))), .unset] []))
    refine Goes.go (fun _ kst => XS.iload X9.here hx rfl (hb hby at_97) rfl  kst) ?_
    show Goes p e below s _ _ _ (T9.setTop (mkF m 99 #[.val (.int p0), .val (.int p1), .val (.int (1 : Int32)), .val (.int (1 : Int32)), .val (.int (Int32.ofNat kk)), .val (.ref b1), .val (.int (own_all (own_W vv 1) 1 0)), .val (.int ((Int32.ofNat kk) + (1 : Int32))), .unset] [(.int (own_all (own_W vv 1) 1 0))]))
    refine Goes.go (fun _ kst => XS.iload X9.here hx rfl (hb hby at_99) rfl  kst) ?_
    show Goes p e below s _ _ _ (T9.setTop (mkF m 101 #[.val (.int p0), .val (.int p1), .val (.int (1 : Int32)), .val (.int (1 : Int32)), .val (.int (Int32.ofNat kk)), .val (.ref b1), .val (.int (own_all (own_W vv 1) 1 0)), .val (.int ((Int32.ofNat kk) + (1 : Int32))), .unset] [(.int ((Int32.ofNat kk) + (1 : Int32))), (.int (own_all (own_W vv 1) 1 0))]))
    refine Goes.go (fun _ kst => XS.iloadN X9.here hx rfl (hb hby at_101) rfl  kst) ?_
    show Goes p e below s _ _ _ (T9.setTop (mkF m 102 #[.val (.int p0), .val (.int p1), .val (.int (1 : Int32)), .val (.int (1 : Int32)), .val (.int (Int32.ofNat kk)), .val (.ref b1), .val (.int (own_all (own_W vv 1) 1 0)), .val (.int ((Int32.ofNat kk) + (1 : Int32))), .unset] [(.int (1 : Int32)), (.int ((Int32.ofNat kk) + (1 : Int32))), (.int (own_all (own_W vv 1) 1 0))]))
    obtain ⟨z11_s0, hz11_s0⟩ : ∃ z : Int32, z = if ((Int32.ofNat kk) + (1 : Int32)) = (1 : Int32) then (0 : Int32) else (1 : Int32) := ⟨_, rfl⟩
    have sm11 : ∀ t, Steps p.tables e below (T9.setTop (mkF m 110 #[.val (.int p0), .val (.int p1), .val (.int (1 : Int32)), .val (.int (1 : Int32)), .val (.int (Int32.ofNat kk)), .val (.ref b1), .val (.int (own_all (own_W vv 1) 1 0)), .val (.int ((Int32.ofNat kk) + (1 : Int32))), .unset] [(.int z11_s0), (.int (own_all (own_W vv 1) 1 0))])) t → Steps p.tables e below (T9.setTop (mkF m 102 #[.val (.int p0), .val (.int p1), .val (.int (1 : Int32)), .val (.int (1 : Int32)), .val (.int (Int32.ofNat kk)), .val (.ref b1), .val (.int (own_all (own_W vv 1) 1 0)), .val (.int ((Int32.ofNat kk) + (1 : Int32))), .unset] [(.int (1 : Int32)), (.int ((Int32.ofNat kk) + (1 : Int32))), (.int (own_all (own_W vv 1) 1 0))])) t := by
      intro t kst
      by_cases hc102_11 : ((Int32.ofNat kk) + (1 : Int32)) = (1 : Int32)
      · have kst2 : Steps p.tables e below (T9.setTop (mkF m 110 #[.val (.int p0), .val (.int p1), .val (.int (1 : Int32)), .val (.int (1 : Int32)), .val (.int (Int32.ofNat kk)), .val (.ref b1), .val (.int (own_all (own_W vv 1) 1 0)), .val (.int ((Int32.ofNat kk) + (1 : Int32))), .unset] [(.int (0 : Int32)), (.int (own_all (own_W vv 1) 1 0))])) t := by simpa only [hz11_s0, if_pos hc102_11] using kst
        show Steps p.tables e below (T9.setTop (mkF m 102 #[.val (.int p0), .val (.int p1), .val (.int (1 : Int32)), .val (.int (1 : Int32)), .val (.int (Int32.ofNat kk)), .val (.ref b1), .val (.int (own_all (own_W vv 1) 1 0)), .val (.int ((Int32.ofNat kk) + (1 : Int32))), .unset] [(.int (1 : Int32)), (.int ((Int32.ofNat kk) + (1 : Int32))), (.int (own_all (own_W vv 1) 1 0))])) _
        refine XS.icmpYes X9.here hx rfl (pc0 := 102) (pc' := 109) rfl (hb hby at_102) rfl (teq hc102_11).1 (by decide) (by decide) ?_
        show Steps p.tables e below (T9.setTop (mkF m 109 #[.val (.int p0), .val (.int p1), .val (.int (1 : Int32)), .val (.int (1 : Int32)), .val (.int (Int32.ofNat kk)), .val (.ref b1), .val (.int (own_all (own_W vv 1) 1 0)), .val (.int ((Int32.ofNat kk) + (1 : Int32))), .unset] [(.int (own_all (own_W vv 1) 1 0))])) _
        refine XS.iconst X9.here hx rfl (hb hby at_109) ?_
        exact kst2
      · have kst2 : Steps p.tables e below (T9.setTop (mkF m 110 #[.val (.int p0), .val (.int p1), .val (.int (1 : Int32)), .val (.int (1 : Int32)), .val (.int (Int32.ofNat kk)), .val (.ref b1), .val (.int (own_all (own_W vv 1) 1 0)), .val (.int ((Int32.ofNat kk) + (1 : Int32))), .unset] [(.int (1 : Int32)), (.int (own_all (own_W vv 1) 1 0))])) t := by simpa only [hz11_s0, if_neg hc102_11] using kst
        show Steps p.tables e below (T9.setTop (mkF m 102 #[.val (.int p0), .val (.int p1), .val (.int (1 : Int32)), .val (.int (1 : Int32)), .val (.int (Int32.ofNat kk)), .val (.ref b1), .val (.int (own_all (own_W vv 1) 1 0)), .val (.int ((Int32.ofNat kk) + (1 : Int32))), .unset] [(.int (1 : Int32)), (.int ((Int32.ofNat kk) + (1 : Int32))), (.int (own_all (own_W vv 1) 1 0))])) _
        refine XS.icmpNo X9.here hx rfl (hb hby at_102) rfl (feq hc102_11).1 ?_
        show Steps p.tables e below (T9.setTop (mkF m 105 #[.val (.int p0), .val (.int p1), .val (.int (1 : Int32)), .val (.int (1 : Int32)), .val (.int (Int32.ofNat kk)), .val (.ref b1), .val (.int (own_all (own_W vv 1) 1 0)), .val (.int ((Int32.ofNat kk) + (1 : Int32))), .unset] [(.int (own_all (own_W vv 1) 1 0))])) _
        refine XS.iconst X9.here hx rfl (hb hby at_105) ?_
        show Steps p.tables e below (T9.setTop (mkF m 106 #[.val (.int p0), .val (.int p1), .val (.int (1 : Int32)), .val (.int (1 : Int32)), .val (.int (Int32.ofNat kk)), .val (.ref b1), .val (.int (own_all (own_W vv 1) 1 0)), .val (.int ((Int32.ofNat kk) + (1 : Int32))), .unset] [(.int (1 : Int32)), (.int (own_all (own_W vv 1) 1 0))])) _
        refine XS.goto X9.here hx rfl (pc0 := 106) (pc' := 110) rfl (hb hby at_106) (by decide) (by decide) ?_
        exact kst2
    refine Goes.go sm11 ?_
    show Goes p e below s _ _ _ (T9.setTop (mkF m 110 #[.val (.int p0), .val (.int p1), .val (.int (1 : Int32)), .val (.int (1 : Int32)), .val (.int (Int32.ofNat kk)), .val (.ref b1), .val (.int (own_all (own_W vv 1) 1 0)), .val (.int ((Int32.ofNat kk) + (1 : Int32))), .unset] [(.int z11_s0), (.int (own_all (own_W vv 1) 1 0))]))
    have hc110_12 : (own_all (own_W vv 1) 1 0) = z11_s0 := by rw [hz11_s0]; exact hall
    refine Goes.go (fun _ kst => XS.icmpNo X9.here hx rfl (hb hby at_110) rfl (teq hc110_12).2 kst) ?_
    show Goes p e below s _ _ _ (T9.setTop (mkF m 113 #[.val (.int p0), .val (.int p1), .val (.int (1 : Int32)), .val (.int (1 : Int32)), .val (.int (Int32.ofNat kk)), .val (.ref b1), .val (.int (own_all (own_W vv 1) 1 0)), .val (.int ((Int32.ofNat kk) + (1 : Int32))), .unset] []))
    refine Goes.go (fun _ kst => XS.iconst X9.here hx rfl (hb hby at_113) kst) ?_
    show Goes p e below s _ _ _ (T9.setTop (mkF m 114 #[.val (.int p0), .val (.int p1), .val (.int (1 : Int32)), .val (.int (1 : Int32)), .val (.int (Int32.ofNat kk)), .val (.ref b1), .val (.int (own_all (own_W vv 1) 1 0)), .val (.int ((Int32.ofNat kk) + (1 : Int32))), .unset] [(.int (1 : Int32))]))
    refine Goes.go (fun _ kst => XS.goto X9.here hx rfl (pc0 := 114) (pc' := 118) rfl (hb hby at_114) (by decide) (by decide) kst) ?_
    show Goes p e below s _ _ _ (T9.setTop (mkF m 118 #[.val (.int p0), .val (.int p1), .val (.int (1 : Int32)), .val (.int (1 : Int32)), .val (.int (Int32.ofNat kk)), .val (.ref b1), .val (.int (own_all (own_W vv 1) 1 0)), .val (.int ((Int32.ofNat kk) + (1 : Int32))), .unset] [(.int (1 : Int32))]))
    refine Goes.go (fun _ kst => XS.istore X9.here hx rfl (hb hby at_118) rfl (l' := #[.val (.int p0), .val (.int p1), .val (.int (1 : Int32)), .val (.int (1 : Int32)), .val (.int (Int32.ofNat kk)), .val (.ref b1), .val (.int (own_all (own_W vv 1) 1 0)), .val (.int ((Int32.ofNat kk) + (1 : Int32))), .val (.int (1 : Int32))]) rfl kst) ?_
    show Goes p e below s _ _ _ (T9.setTop (mkF m 120 #[.val (.int p0), .val (.int p1), .val (.int (1 : Int32)), .val (.int (1 : Int32)), .val (.int (Int32.ofNat kk)), .val (.ref b1), .val (.int (own_all (own_W vv 1) 1 0)), .val (.int ((Int32.ofNat kk) + (1 : Int32))), .val (.int (1 : Int32))] []))
    refine Goes.go (fun _ kst => XS.iload X9.here hx rfl (hb hby at_120) rfl  kst) ?_
    show Goes p e below s _ _ _ (T9.setTop (mkF m 122 #[.val (.int p0), .val (.int p1), .val (.int (1 : Int32)), .val (.int (1 : Int32)), .val (.int (Int32.ofNat kk)), .val (.ref b1), .val (.int (own_all (own_W vv 1) 1 0)), .val (.int ((Int32.ofNat kk) + (1 : Int32))), .val (.int (1 : Int32))] [(.int (1 : Int32))]))
    have hc122_13 : ¬ ((1 : Int32) = (0 : Int32)) := (by decide)
    refine Goes.go (fun _ kst => XS.ifNo X9.here hx rfl (hb hby at_122) rfl ((if0 _ _).trans (feq hc122_13).1) kst) ?_
    show Goes p e below s _ _ _ (T9.setTop (mkF m 125 #[.val (.int p0), .val (.int p1), .val (.int (1 : Int32)), .val (.int (1 : Int32)), .val (.int (Int32.ofNat kk)), .val (.ref b1), .val (.int (own_all (own_W vv 1) 1 0)), .val (.int ((Int32.ofNat kk) + (1 : Int32))), .val (.int (1 : Int32))] []))
    refine Goes.go (fun _ kst => XS.aload X9.here hx rfl (hb hby at_125) rfl rfl  kst) ?_
    show Goes p e below s _ _ _ (T9.setTop (mkF m 127 #[.val (.int p0), .val (.int p1), .val (.int (1 : Int32)), .val (.int (1 : Int32)), .val (.int (Int32.ofNat kk)), .val (.ref b1), .val (.int (own_all (own_W vv 1) 1 0)), .val (.int ((Int32.ofNat kk) + (1 : Int32))), .val (.int (1 : Int32))] [(.ref b1)]))
    refine Goes.go (fun _ kst => XS.iconst X9.here hx rfl (hb hby at_127) kst) ?_
    show Goes p e below s _ _ _ (T9.setTop (mkF m 128 #[.val (.int p0), .val (.int p1), .val (.int (1 : Int32)), .val (.int (1 : Int32)), .val (.int (Int32.ofNat kk)), .val (.ref b1), .val (.int (own_all (own_W vv 1) 1 0)), .val (.int ((Int32.ofNat kk) + (1 : Int32))), .val (.int (1 : Int32))] [(.int (0 : Int32)), (.ref b1)]))
    refine Goes.go (fun _ kst => XS.iload X9.here hx rfl (hb hby at_128) rfl  kst) ?_
    show Goes p e below s _ _ _ (T9.setTop (mkF m 130 #[.val (.int p0), .val (.int p1), .val (.int (1 : Int32)), .val (.int (1 : Int32)), .val (.int (Int32.ofNat kk)), .val (.ref b1), .val (.int (own_all (own_W vv 1) 1 0)), .val (.int ((Int32.ofNat kk) + (1 : Int32))), .val (.int (1 : Int32))] [(.int ((Int32.ofNat kk) + (1 : Int32))), (.int (0 : Int32)), (.ref b1)]))
    obtain ⟨_, _, ⟨T14, L14, k14, n14⟩, -, X14, ⟨Lc14, hQ14, l14, y14, z14⟩, st14⟩ := Jvm.LawKit.callS X9 hx (y := (⟨"com/example/surety/surety/DecompositionAdvancePinLaw", "same", "([ZII)Z"⟩ : MethodName)) hown (mvT hZ (hw _ (List.mem_of_getElem? (i := 10) rfl))) (mvT hZ (hw _ (List.mem_of_getElem? (i := 11) rfl))) (mvT hZ (hw _ (List.mem_of_getElem? (i := 4) rfl))) (mvT hZ (hw _ (List.mem_of_getElem? (i := 12) rfl))) (by decide) (backOf (W := 0) (rm3 l Z a0 hw [] b1 (0 : Int32) ((Int32.ofNat kk) + (1 : Int32)) 1 (own_W vv 1) 0 h9 n0 Z9 A9 rfl (by decide)) hZ (hw _ (List.mem_of_getElem? (i := 12) rfl)) (hw _ (List.mem_of_getElem? (i := 4) rfl)) (by decide) (by decide)) (g := (mkF m 130 #[.val (.int p0), .val (.int p1), .val (.int (1 : Int32)), .val (.int (1 : Int32)), .val (.int (Int32.ofNat kk)), .val (.ref b1), .val (.int (own_all (own_W vv 1) 1 0)), .val (.int ((Int32.ofNat kk) + (1 : Int32))), .val (.int (1 : Int32))] [(.int ((Int32.ofNat kk) + (1 : Int32))), (.int (0 : Int32)), (.ref b1)])) rfl (by rw [hml]; rfl) (argsL := [(.ref b1), (.int (0 : Int32)), (.int ((Int32.ofNat kk) + (1 : Int32)))]) (rest := []) (lenOf pd_2 rfl) rfl (by show 2 * 0 + _ ≤ _; exact Nat.le_of_eq rfl) (hb hby at_130) (fun _ _ => ⟨rfl, e9, (by decide : 1 + 0 ≤ _), (by decide : 1 + 0 ≤ _)⟩)
    dsimp only [Pt.U, Pt.locs, Pt.cells, Pt.slots] at X14 l14 y14 z14 st14 hQ14
    subst l14 y14 z14
    obtain ⟨rfl, N14q, e14⟩ := hQ14
    have N14 := Fr.app N9 N14q
    refine Goes.go st14 ?_
    show Goes p e below s _ _ _ (T14.setTop (mkF m 133 #[.val (.int p0), .val (.int p1), .val (.int (1 : Int32)), .val (.int (1 : Int32)), .val (.int (Int32.ofNat kk)), .val (.ref b1), .val (.int (own_all (own_W vv 1) 1 0)), .val (.int ((Int32.ofNat kk) + (1 : Int32))), .val (.int (1 : Int32))] [(.int (f3 b1 (0 : Int32) ((Int32.ofNat kk) + (1 : Int32)) 1 (own_W vv 1) 0))]))
    have hc133_15 : ¬ ((f3 b1 (0 : Int32) ((Int32.ofNat kk) + (1 : Int32)) 1 (own_W vv 1) 0) = (0 : Int32)) := gg0
    refine Goes.go (fun _ kst => XS.ifNo X14.here hx rfl (hb hby at_133) rfl ((if0 _ _).trans (feq hc133_15).1) kst) ?_
    show Goes p e below s _ _ _ (T14.setTop (mkF m 136 #[.val (.int p0), .val (.int p1), .val (.int (1 : Int32)), .val (.int (1 : Int32)), .val (.int (Int32.ofNat kk)), .val (.ref b1), .val (.int (own_all (own_W vv 1) 1 0)), .val (.int ((Int32.ofNat kk) + (1 : Int32))), .val (.int (1 : Int32))] []))
    refine Goes.go (fun _ kst => XS.aload X14.here hx rfl (hb hby at_136) rfl rfl  kst) ?_
    show Goes p e below s _ _ _ (T14.setTop (mkF m 138 #[.val (.int p0), .val (.int p1), .val (.int (1 : Int32)), .val (.int (1 : Int32)), .val (.int (Int32.ofNat kk)), .val (.ref b1), .val (.int (own_all (own_W vv 1) 1 0)), .val (.int ((Int32.ofNat kk) + (1 : Int32))), .val (.int (1 : Int32))] [(.ref b1)]))
    refine Goes.go (fun _ kst => XS.iconst X14.here hx rfl (hb hby at_138) kst) ?_
    show Goes p e below s _ _ _ (T14.setTop (mkF m 139 #[.val (.int p0), .val (.int p1), .val (.int (1 : Int32)), .val (.int (1 : Int32)), .val (.int (Int32.ofNat kk)), .val (.ref b1), .val (.int (own_all (own_W vv 1) 1 0)), .val (.int ((Int32.ofNat kk) + (1 : Int32))), .val (.int (1 : Int32))] [(.int (1 : Int32)), (.ref b1)]))
    refine Goes.go (fun _ kst => XS.iload X14.here hx rfl (hb hby at_139) rfl  kst) ?_
    show Goes p e below s _ _ _ (T14.setTop (mkF m 141 #[.val (.int p0), .val (.int p1), .val (.int (1 : Int32)), .val (.int (1 : Int32)), .val (.int (Int32.ofNat kk)), .val (.ref b1), .val (.int (own_all (own_W vv 1) 1 0)), .val (.int ((Int32.ofNat kk) + (1 : Int32))), .val (.int (1 : Int32))] [(.int ((Int32.ofNat kk) + (1 : Int32))), (.int (1 : Int32)), (.ref b1)]))
    obtain ⟨_, _, ⟨T16, L16, k16, n16⟩, -, X16, ⟨Lc16, hQ16, l16, y16, z16⟩, st16⟩ := Jvm.LawKit.callS X14 hx (y := (⟨"com/example/surety/surety/DecompositionAdvancePinLaw", "same", "([ZII)Z"⟩ : MethodName)) hown (mvT hZ (hw _ (List.mem_of_getElem? (i := 10) rfl))) (mvT hZ (hw _ (List.mem_of_getElem? (i := 11) rfl))) (mvT hZ (hw _ (List.mem_of_getElem? (i := 4) rfl))) (mvT hZ (hw _ (List.mem_of_getElem? (i := 12) rfl))) (by decide) (backOf (W := 0) (rm3 l Z a0 hw [] b1 (1 : Int32) ((Int32.ofNat kk) + (1 : Int32)) 1 (own_W vv 1) 1 h9 n0 Z9 A9 rfl (by decide)) hZ (hw _ (List.mem_of_getElem? (i := 12) rfl)) (hw _ (List.mem_of_getElem? (i := 4) rfl)) (by decide) (by decide)) (g := (mkF m 141 #[.val (.int p0), .val (.int p1), .val (.int (1 : Int32)), .val (.int (1 : Int32)), .val (.int (Int32.ofNat kk)), .val (.ref b1), .val (.int (own_all (own_W vv 1) 1 0)), .val (.int ((Int32.ofNat kk) + (1 : Int32))), .val (.int (1 : Int32))] [(.int ((Int32.ofNat kk) + (1 : Int32))), (.int (1 : Int32)), (.ref b1)])) rfl (by rw [hml]; rfl) (argsL := [(.ref b1), (.int (1 : Int32)), (.int ((Int32.ofNat kk) + (1 : Int32)))]) (rest := []) (lenOf pd_2 rfl) rfl (by show 2 * 0 + _ ≤ _; exact Nat.le_of_eq rfl) (hb hby at_141) (fun _ _ => ⟨rfl, e14, (by decide : 1 + 0 ≤ _), (by decide : 1 + 0 ≤ _)⟩)
    dsimp only [Pt.U, Pt.locs, Pt.cells, Pt.slots] at X16 l16 y16 z16 st16 hQ16
    subst l16 y16 z16
    obtain ⟨rfl, N16q, e16⟩ := hQ16
    have N16 := Fr.app N14 N16q
    refine Goes.go st16 ?_
    show Goes p e below s _ _ _ (T16.setTop (mkF m 144 #[.val (.int p0), .val (.int p1), .val (.int (1 : Int32)), .val (.int (1 : Int32)), .val (.int (Int32.ofNat kk)), .val (.ref b1), .val (.int (own_all (own_W vv 1) 1 0)), .val (.int ((Int32.ofNat kk) + (1 : Int32))), .val (.int (1 : Int32))] [(.int (f3 b1 (1 : Int32) ((Int32.ofNat kk) + (1 : Int32)) 1 (own_W vv 1) 1))]))
    have hc144_17 : ¬ ((f3 b1 (1 : Int32) ((Int32.ofNat kk) + (1 : Int32)) 1 (own_W vv 1) 1) = (0 : Int32)) := gg1
    refine Goes.go (fun _ kst => XS.ifNo X16.here hx rfl (hb hby at_144) rfl ((if0 _ _).trans (feq hc144_17).1) kst) ?_
    show Goes p e below s _ _ _ (T16.setTop (mkF m 147 #[.val (.int p0), .val (.int p1), .val (.int (1 : Int32)), .val (.int (1 : Int32)), .val (.int (Int32.ofNat kk)), .val (.ref b1), .val (.int (own_all (own_W vv 1) 1 0)), .val (.int ((Int32.ofNat kk) + (1 : Int32))), .val (.int (1 : Int32))] []))
    refine Goes.go (fun _ kst => XS.aload X16.here hx rfl (hb hby at_147) rfl rfl  kst) ?_
    show Goes p e below s _ _ _ (T16.setTop (mkF m 149 #[.val (.int p0), .val (.int p1), .val (.int (1 : Int32)), .val (.int (1 : Int32)), .val (.int (Int32.ofNat kk)), .val (.ref b1), .val (.int (own_all (own_W vv 1) 1 0)), .val (.int ((Int32.ofNat kk) + (1 : Int32))), .val (.int (1 : Int32))] [(.ref b1)]))
    refine Goes.go (fun _ kst => XS.iconst X16.here hx rfl (hb hby at_149) kst) ?_
    show Goes p e below s _ _ _ (T16.setTop (mkF m 150 #[.val (.int p0), .val (.int p1), .val (.int (1 : Int32)), .val (.int (1 : Int32)), .val (.int (Int32.ofNat kk)), .val (.ref b1), .val (.int (own_all (own_W vv 1) 1 0)), .val (.int ((Int32.ofNat kk) + (1 : Int32))), .val (.int (1 : Int32))] [(.int (2 : Int32)), (.ref b1)]))
    refine Goes.go (fun _ kst => XS.iload X16.here hx rfl (hb hby at_150) rfl  kst) ?_
    show Goes p e below s _ _ _ (T16.setTop (mkF m 152 #[.val (.int p0), .val (.int p1), .val (.int (1 : Int32)), .val (.int (1 : Int32)), .val (.int (Int32.ofNat kk)), .val (.ref b1), .val (.int (own_all (own_W vv 1) 1 0)), .val (.int ((Int32.ofNat kk) + (1 : Int32))), .val (.int (1 : Int32))] [(.int ((Int32.ofNat kk) + (1 : Int32))), (.int (2 : Int32)), (.ref b1)]))
    obtain ⟨_, _, ⟨T18, L18, k18, n18⟩, -, X18, ⟨Lc18, hQ18, l18, y18, z18⟩, st18⟩ := Jvm.LawKit.callS X16 hx (y := (⟨"com/example/surety/surety/DecompositionAdvancePinLaw", "same", "([ZII)Z"⟩ : MethodName)) hown (mvT hZ (hw _ (List.mem_of_getElem? (i := 10) rfl))) (mvT hZ (hw _ (List.mem_of_getElem? (i := 11) rfl))) (mvT hZ (hw _ (List.mem_of_getElem? (i := 4) rfl))) (mvT hZ (hw _ (List.mem_of_getElem? (i := 12) rfl))) (by decide) (backOf (W := 0) (rm3 l Z a0 hw [] b1 (2 : Int32) ((Int32.ofNat kk) + (1 : Int32)) 1 (own_W vv 1) 2 h9 n0 Z9 A9 rfl (by decide)) hZ (hw _ (List.mem_of_getElem? (i := 12) rfl)) (hw _ (List.mem_of_getElem? (i := 4) rfl)) (by decide) (by decide)) (g := (mkF m 152 #[.val (.int p0), .val (.int p1), .val (.int (1 : Int32)), .val (.int (1 : Int32)), .val (.int (Int32.ofNat kk)), .val (.ref b1), .val (.int (own_all (own_W vv 1) 1 0)), .val (.int ((Int32.ofNat kk) + (1 : Int32))), .val (.int (1 : Int32))] [(.int ((Int32.ofNat kk) + (1 : Int32))), (.int (2 : Int32)), (.ref b1)])) rfl (by rw [hml]; rfl) (argsL := [(.ref b1), (.int (2 : Int32)), (.int ((Int32.ofNat kk) + (1 : Int32)))]) (rest := []) (lenOf pd_2 rfl) rfl (by show 2 * 0 + _ ≤ _; exact Nat.le_of_eq rfl) (hb hby at_152) (fun _ _ => ⟨rfl, e16, (by decide : 1 + 0 ≤ _), (by decide : 1 + 0 ≤ _)⟩)
    dsimp only [Pt.U, Pt.locs, Pt.cells, Pt.slots] at X18 l18 y18 z18 st18 hQ18
    subst l18 y18 z18
    obtain ⟨rfl, N18q, e18⟩ := hQ18
    have N18 := Fr.app N16 N18q
    refine Goes.go st18 ?_
    show Goes p e below s _ _ _ (T18.setTop (mkF m 155 #[.val (.int p0), .val (.int p1), .val (.int (1 : Int32)), .val (.int (1 : Int32)), .val (.int (Int32.ofNat kk)), .val (.ref b1), .val (.int (own_all (own_W vv 1) 1 0)), .val (.int ((Int32.ofNat kk) + (1 : Int32))), .val (.int (1 : Int32))] [(.int (f3 b1 (2 : Int32) ((Int32.ofNat kk) + (1 : Int32)) 1 (own_W vv 1) 2))]))
    have hc155_19 : ¬ ((f3 b1 (2 : Int32) ((Int32.ofNat kk) + (1 : Int32)) 1 (own_W vv 1) 2) = (0 : Int32)) := gg2
    refine Goes.go (fun _ kst => XS.ifNo X18.here hx rfl (hb hby at_155) rfl ((if0 _ _).trans (feq hc155_19).1) kst) ?_
    show Goes p e below s _ _ _ (T18.setTop (mkF m 158 #[.val (.int p0), .val (.int p1), .val (.int (1 : Int32)), .val (.int (1 : Int32)), .val (.int (Int32.ofNat kk)), .val (.ref b1), .val (.int (own_all (own_W vv 1) 1 0)), .val (.int ((Int32.ofNat kk) + (1 : Int32))), .val (.int (1 : Int32))] []))
    refine Goes.go (fun _ kst => XS.iconst X18.here hx rfl (hb hby at_158) kst) ?_
    show Goes p e below s _ _ _ (T18.setTop (mkF m 159 #[.val (.int p0), .val (.int p1), .val (.int (1 : Int32)), .val (.int (1 : Int32)), .val (.int (Int32.ofNat kk)), .val (.ref b1), .val (.int (own_all (own_W vv 1) 1 0)), .val (.int ((Int32.ofNat kk) + (1 : Int32))), .val (.int (1 : Int32))] [(.int (1 : Int32))]))
    refine Goes.go (fun _ kst => XS.goto X18.here hx rfl (pc0 := 159) (pc' := 163) rfl (hb hby at_159) (by decide) (by decide) kst) ?_
    show Goes p e below s _ _ _ (T18.setTop (mkF m 163 #[.val (.int p0), .val (.int p1), .val (.int (1 : Int32)), .val (.int (1 : Int32)), .val (.int (Int32.ofNat kk)), .val (.ref b1), .val (.int (own_all (own_W vv 1) 1 0)), .val (.int ((Int32.ofNat kk) + (1 : Int32))), .val (.int (1 : Int32))] [(.int (1 : Int32))]))
    refine Goes.go (fun _ kst => XS.istore X18.here hx rfl (hb hby at_163) rfl (l' := #[.val (.int p0), .val (.int p1), .val (.int (1 : Int32)), .val (.int (1 : Int32)), .val (.int (Int32.ofNat kk)), .val (.ref b1), .val (.int (own_all (own_W vv 1) 1 0)), .val (.int ((Int32.ofNat kk) + (1 : Int32))), .val (.int (1 : Int32))]) rfl kst) ?_
    show Goes p e below s _ _ _ (T18.setTop (mkF m 165 #[.val (.int p0), .val (.int p1), .val (.int (1 : Int32)), .val (.int (1 : Int32)), .val (.int (Int32.ofNat kk)), .val (.ref b1), .val (.int (own_all (own_W vv 1) 1 0)), .val (.int ((Int32.ofNat kk) + (1 : Int32))), .val (.int (1 : Int32))] []))
    refine Goes.go (fun _ kst => XS.iload X18.here hx rfl (hb hby at_165) rfl  kst) ?_
    show Goes p e below s _ _ _ (T18.setTop (mkF m 167 #[.val (.int p0), .val (.int p1), .val (.int (1 : Int32)), .val (.int (1 : Int32)), .val (.int (Int32.ofNat kk)), .val (.ref b1), .val (.int (own_all (own_W vv 1) 1 0)), .val (.int ((Int32.ofNat kk) + (1 : Int32))), .val (.int (1 : Int32))] [(.int (1 : Int32))]))
    have hc167_20 : ¬ ((1 : Int32) = (0 : Int32)) := (by decide)
    refine Goes.go (fun _ kst => XS.ifNo X18.here hx rfl (hb hby at_167) rfl ((if0 _ _).trans (feq hc167_20).1) kst) ?_
    show Goes p e below s _ _ _ (T18.setTop (mkF m 170 #[.val (.int p0), .val (.int p1), .val (.int (1 : Int32)), .val (.int (1 : Int32)), .val (.int (Int32.ofNat kk)), .val (.ref b1), .val (.int (own_all (own_W vv 1) 1 0)), .val (.int ((Int32.ofNat kk) + (1 : Int32))), .val (.int (1 : Int32))] []))
    refine Goes.go (fun _ kst => XS.aload X18.here hx rfl (hb hby at_170) rfl rfl  kst) ?_
    show Goes p e below s _ _ _ (T18.setTop (mkF m 172 #[.val (.int p0), .val (.int p1), .val (.int (1 : Int32)), .val (.int (1 : Int32)), .val (.int (Int32.ofNat kk)), .val (.ref b1), .val (.int (own_all (own_W vv 1) 1 0)), .val (.int ((Int32.ofNat kk) + (1 : Int32))), .val (.int (1 : Int32))] [(.ref b1)]))
    refine Goes.go (fun _ kst => XS.iconst X18.here hx rfl (hb hby at_172) kst) ?_
    show Goes p e below s _ _ _ (T18.setTop (mkF m 173 #[.val (.int p0), .val (.int p1), .val (.int (1 : Int32)), .val (.int (1 : Int32)), .val (.int (Int32.ofNat kk)), .val (.ref b1), .val (.int (own_all (own_W vv 1) 1 0)), .val (.int ((Int32.ofNat kk) + (1 : Int32))), .val (.int (1 : Int32))] [(.int (3 : Int32)), (.ref b1)]))
    refine Goes.go (fun _ kst => XS.iload X18.here hx rfl (hb hby at_173) rfl  kst) ?_
    show Goes p e below s _ _ _ (T18.setTop (mkF m 175 #[.val (.int p0), .val (.int p1), .val (.int (1 : Int32)), .val (.int (1 : Int32)), .val (.int (Int32.ofNat kk)), .val (.ref b1), .val (.int (own_all (own_W vv 1) 1 0)), .val (.int ((Int32.ofNat kk) + (1 : Int32))), .val (.int (1 : Int32))] [(.int ((Int32.ofNat kk) + (1 : Int32))), (.int (3 : Int32)), (.ref b1)]))
    obtain ⟨_, _, ⟨T21, L21, k21, n21⟩, -, X21, ⟨Lc21, hQ21, l21, y21, z21⟩, st21⟩ := Jvm.LawKit.callS X18 hx (y := (⟨"com/example/surety/surety/DecompositionAdvancePinLaw", "same", "([ZII)Z"⟩ : MethodName)) hown (mvT hZ (hw _ (List.mem_of_getElem? (i := 10) rfl))) (mvT hZ (hw _ (List.mem_of_getElem? (i := 11) rfl))) (mvT hZ (hw _ (List.mem_of_getElem? (i := 4) rfl))) (mvT hZ (hw _ (List.mem_of_getElem? (i := 12) rfl))) (by decide) (backOf (W := 0) (rm3 l Z a0 hw [] b1 (3 : Int32) ((Int32.ofNat kk) + (1 : Int32)) 1 (own_W vv 1) 3 h9 n0 Z9 A9 rfl (by decide)) hZ (hw _ (List.mem_of_getElem? (i := 12) rfl)) (hw _ (List.mem_of_getElem? (i := 4) rfl)) (by decide) (by decide)) (g := (mkF m 175 #[.val (.int p0), .val (.int p1), .val (.int (1 : Int32)), .val (.int (1 : Int32)), .val (.int (Int32.ofNat kk)), .val (.ref b1), .val (.int (own_all (own_W vv 1) 1 0)), .val (.int ((Int32.ofNat kk) + (1 : Int32))), .val (.int (1 : Int32))] [(.int ((Int32.ofNat kk) + (1 : Int32))), (.int (3 : Int32)), (.ref b1)])) rfl (by rw [hml]; rfl) (argsL := [(.ref b1), (.int (3 : Int32)), (.int ((Int32.ofNat kk) + (1 : Int32)))]) (rest := []) (lenOf pd_2 rfl) rfl (by show 2 * 0 + _ ≤ _; exact Nat.le_of_eq rfl) (hb hby at_175) (fun _ _ => ⟨rfl, e18, (by decide : 1 + 0 ≤ _), (by decide : 1 + 0 ≤ _)⟩)
    dsimp only [Pt.U, Pt.locs, Pt.cells, Pt.slots] at X21 l21 y21 z21 st21 hQ21
    subst l21 y21 z21
    obtain ⟨rfl, N21q, e21⟩ := hQ21
    have N21 := Fr.app N18 N21q
    refine Goes.go st21 ?_
    show Goes p e below s _ _ _ (T21.setTop (mkF m 178 #[.val (.int p0), .val (.int p1), .val (.int (1 : Int32)), .val (.int (1 : Int32)), .val (.int (Int32.ofNat kk)), .val (.ref b1), .val (.int (own_all (own_W vv 1) 1 0)), .val (.int ((Int32.ofNat kk) + (1 : Int32))), .val (.int (1 : Int32))] [(.int (f3 b1 (3 : Int32) ((Int32.ofNat kk) + (1 : Int32)) 1 (own_W vv 1) 3))]))
    have hc178_22 : ¬ ((f3 b1 (3 : Int32) ((Int32.ofNat kk) + (1 : Int32)) 1 (own_W vv 1) 3) = (0 : Int32)) := gg3
    refine Goes.go (fun _ kst => XS.ifNo X21.here hx rfl (hb hby at_178) rfl ((if0 _ _).trans (feq hc178_22).1) kst) ?_
    show Goes p e below s _ _ _ (T21.setTop (mkF m 181 #[.val (.int p0), .val (.int p1), .val (.int (1 : Int32)), .val (.int (1 : Int32)), .val (.int (Int32.ofNat kk)), .val (.ref b1), .val (.int (own_all (own_W vv 1) 1 0)), .val (.int ((Int32.ofNat kk) + (1 : Int32))), .val (.int (1 : Int32))] []))
    refine Goes.go (fun _ kst => XS.aload X21.here hx rfl (hb hby at_181) rfl rfl  kst) ?_
    show Goes p e below s _ _ _ (T21.setTop (mkF m 183 #[.val (.int p0), .val (.int p1), .val (.int (1 : Int32)), .val (.int (1 : Int32)), .val (.int (Int32.ofNat kk)), .val (.ref b1), .val (.int (own_all (own_W vv 1) 1 0)), .val (.int ((Int32.ofNat kk) + (1 : Int32))), .val (.int (1 : Int32))] [(.ref b1)]))
    refine Goes.go (fun _ kst => XS.iconst X21.here hx rfl (hb hby at_183) kst) ?_
    show Goes p e below s _ _ _ (T21.setTop (mkF m 184 #[.val (.int p0), .val (.int p1), .val (.int (1 : Int32)), .val (.int (1 : Int32)), .val (.int (Int32.ofNat kk)), .val (.ref b1), .val (.int (own_all (own_W vv 1) 1 0)), .val (.int ((Int32.ofNat kk) + (1 : Int32))), .val (.int (1 : Int32))] [(.int (4 : Int32)), (.ref b1)]))
    refine Goes.go (fun _ kst => XS.iload X21.here hx rfl (hb hby at_184) rfl  kst) ?_
    show Goes p e below s _ _ _ (T21.setTop (mkF m 186 #[.val (.int p0), .val (.int p1), .val (.int (1 : Int32)), .val (.int (1 : Int32)), .val (.int (Int32.ofNat kk)), .val (.ref b1), .val (.int (own_all (own_W vv 1) 1 0)), .val (.int ((Int32.ofNat kk) + (1 : Int32))), .val (.int (1 : Int32))] [(.int ((Int32.ofNat kk) + (1 : Int32))), (.int (4 : Int32)), (.ref b1)]))
    obtain ⟨_, _, ⟨T23, L23, k23, n23⟩, -, X23, ⟨Lc23, hQ23, l23, y23, z23⟩, st23⟩ := Jvm.LawKit.callS X21 hx (y := (⟨"com/example/surety/surety/DecompositionAdvancePinLaw", "same", "([ZII)Z"⟩ : MethodName)) hown (mvT hZ (hw _ (List.mem_of_getElem? (i := 10) rfl))) (mvT hZ (hw _ (List.mem_of_getElem? (i := 11) rfl))) (mvT hZ (hw _ (List.mem_of_getElem? (i := 4) rfl))) (mvT hZ (hw _ (List.mem_of_getElem? (i := 12) rfl))) (by decide) (backOf (W := 0) (rm3 l Z a0 hw [] b1 (4 : Int32) ((Int32.ofNat kk) + (1 : Int32)) 1 (own_W vv 1) 4 h9 n0 Z9 A9 rfl (by decide)) hZ (hw _ (List.mem_of_getElem? (i := 12) rfl)) (hw _ (List.mem_of_getElem? (i := 4) rfl)) (by decide) (by decide)) (g := (mkF m 186 #[.val (.int p0), .val (.int p1), .val (.int (1 : Int32)), .val (.int (1 : Int32)), .val (.int (Int32.ofNat kk)), .val (.ref b1), .val (.int (own_all (own_W vv 1) 1 0)), .val (.int ((Int32.ofNat kk) + (1 : Int32))), .val (.int (1 : Int32))] [(.int ((Int32.ofNat kk) + (1 : Int32))), (.int (4 : Int32)), (.ref b1)])) rfl (by rw [hml]; rfl) (argsL := [(.ref b1), (.int (4 : Int32)), (.int ((Int32.ofNat kk) + (1 : Int32)))]) (rest := []) (lenOf pd_2 rfl) rfl (by show 2 * 0 + _ ≤ _; exact Nat.le_of_eq rfl) (hb hby at_186) (fun _ _ => ⟨rfl, e21, (by decide : 1 + 0 ≤ _), (by decide : 1 + 0 ≤ _)⟩)
    dsimp only [Pt.U, Pt.locs, Pt.cells, Pt.slots] at X23 l23 y23 z23 st23 hQ23
    subst l23 y23 z23
    obtain ⟨rfl, N23q, e23⟩ := hQ23
    have N23 := Fr.app N21 N23q
    refine Goes.go st23 ?_
    show Goes p e below s _ _ _ (T23.setTop (mkF m 189 #[.val (.int p0), .val (.int p1), .val (.int (1 : Int32)), .val (.int (1 : Int32)), .val (.int (Int32.ofNat kk)), .val (.ref b1), .val (.int (own_all (own_W vv 1) 1 0)), .val (.int ((Int32.ofNat kk) + (1 : Int32))), .val (.int (1 : Int32))] [(.int (f3 b1 (4 : Int32) ((Int32.ofNat kk) + (1 : Int32)) 1 (own_W vv 1) 4))]))
    have hc189_24 : ¬ ((f3 b1 (4 : Int32) ((Int32.ofNat kk) + (1 : Int32)) 1 (own_W vv 1) 4) = (0 : Int32)) := gg4
    refine Goes.go (fun _ kst => XS.ifNo X23.here hx rfl (hb hby at_189) rfl ((if0 _ _).trans (feq hc189_24).1) kst) ?_
    show Goes p e below s _ _ _ (T23.setTop (mkF m 192 #[.val (.int p0), .val (.int p1), .val (.int (1 : Int32)), .val (.int (1 : Int32)), .val (.int (Int32.ofNat kk)), .val (.ref b1), .val (.int (own_all (own_W vv 1) 1 0)), .val (.int ((Int32.ofNat kk) + (1 : Int32))), .val (.int (1 : Int32))] []))
    refine Goes.go (fun _ kst => XS.aload X23.here hx rfl (hb hby at_192) rfl rfl  kst) ?_
    show Goes p e below s _ _ _ (T23.setTop (mkF m 194 #[.val (.int p0), .val (.int p1), .val (.int (1 : Int32)), .val (.int (1 : Int32)), .val (.int (Int32.ofNat kk)), .val (.ref b1), .val (.int (own_all (own_W vv 1) 1 0)), .val (.int ((Int32.ofNat kk) + (1 : Int32))), .val (.int (1 : Int32))] [(.ref b1)]))
    refine Goes.go (fun _ kst => XS.iconst X23.here hx rfl (hb hby at_194) kst) ?_
    show Goes p e below s _ _ _ (T23.setTop (mkF m 195 #[.val (.int p0), .val (.int p1), .val (.int (1 : Int32)), .val (.int (1 : Int32)), .val (.int (Int32.ofNat kk)), .val (.ref b1), .val (.int (own_all (own_W vv 1) 1 0)), .val (.int ((Int32.ofNat kk) + (1 : Int32))), .val (.int (1 : Int32))] [(.int (5 : Int32)), (.ref b1)]))
    refine Goes.go (fun _ kst => XS.iload X23.here hx rfl (hb hby at_195) rfl  kst) ?_
    show Goes p e below s _ _ _ (T23.setTop (mkF m 197 #[.val (.int p0), .val (.int p1), .val (.int (1 : Int32)), .val (.int (1 : Int32)), .val (.int (Int32.ofNat kk)), .val (.ref b1), .val (.int (own_all (own_W vv 1) 1 0)), .val (.int ((Int32.ofNat kk) + (1 : Int32))), .val (.int (1 : Int32))] [(.int ((Int32.ofNat kk) + (1 : Int32))), (.int (5 : Int32)), (.ref b1)]))
    obtain ⟨_, _, ⟨T25, L25, k25, n25⟩, -, X25, ⟨Lc25, hQ25, l25, y25, z25⟩, st25⟩ := Jvm.LawKit.callS X23 hx (y := (⟨"com/example/surety/surety/DecompositionAdvancePinLaw", "same", "([ZII)Z"⟩ : MethodName)) hown (mvT hZ (hw _ (List.mem_of_getElem? (i := 10) rfl))) (mvT hZ (hw _ (List.mem_of_getElem? (i := 11) rfl))) (mvT hZ (hw _ (List.mem_of_getElem? (i := 4) rfl))) (mvT hZ (hw _ (List.mem_of_getElem? (i := 12) rfl))) (by decide) (backOf (W := 0) (rm3 l Z a0 hw [] b1 (5 : Int32) ((Int32.ofNat kk) + (1 : Int32)) 1 (own_W vv 1) 5 h9 n0 Z9 A9 rfl (by decide)) hZ (hw _ (List.mem_of_getElem? (i := 12) rfl)) (hw _ (List.mem_of_getElem? (i := 4) rfl)) (by decide) (by decide)) (g := (mkF m 197 #[.val (.int p0), .val (.int p1), .val (.int (1 : Int32)), .val (.int (1 : Int32)), .val (.int (Int32.ofNat kk)), .val (.ref b1), .val (.int (own_all (own_W vv 1) 1 0)), .val (.int ((Int32.ofNat kk) + (1 : Int32))), .val (.int (1 : Int32))] [(.int ((Int32.ofNat kk) + (1 : Int32))), (.int (5 : Int32)), (.ref b1)])) rfl (by rw [hml]; rfl) (argsL := [(.ref b1), (.int (5 : Int32)), (.int ((Int32.ofNat kk) + (1 : Int32)))]) (rest := []) (lenOf pd_2 rfl) rfl (by show 2 * 0 + _ ≤ _; exact Nat.le_of_eq rfl) (hb hby at_197) (fun _ _ => ⟨rfl, e23, (by decide : 1 + 0 ≤ _), (by decide : 1 + 0 ≤ _)⟩)
    dsimp only [Pt.U, Pt.locs, Pt.cells, Pt.slots] at X25 l25 y25 z25 st25 hQ25
    subst l25 y25 z25
    obtain ⟨rfl, N25q, e25⟩ := hQ25
    have N25 := Fr.app N23 N25q
    refine Goes.go st25 ?_
    show Goes p e below s _ _ _ (T25.setTop (mkF m 200 #[.val (.int p0), .val (.int p1), .val (.int (1 : Int32)), .val (.int (1 : Int32)), .val (.int (Int32.ofNat kk)), .val (.ref b1), .val (.int (own_all (own_W vv 1) 1 0)), .val (.int ((Int32.ofNat kk) + (1 : Int32))), .val (.int (1 : Int32))] [(.int (f3 b1 (5 : Int32) ((Int32.ofNat kk) + (1 : Int32)) 1 (own_W vv 1) 5))]))
    have hc200_26 : ¬ ((f3 b1 (5 : Int32) ((Int32.ofNat kk) + (1 : Int32)) 1 (own_W vv 1) 5) = (0 : Int32)) := gg5
    refine Goes.go (fun _ kst => XS.ifNo X25.here hx rfl (hb hby at_200) rfl ((if0 _ _).trans (feq hc200_26).1) kst) ?_
    show Goes p e below s _ _ _ (T25.setTop (mkF m 203 #[.val (.int p0), .val (.int p1), .val (.int (1 : Int32)), .val (.int (1 : Int32)), .val (.int (Int32.ofNat kk)), .val (.ref b1), .val (.int (own_all (own_W vv 1) 1 0)), .val (.int ((Int32.ofNat kk) + (1 : Int32))), .val (.int (1 : Int32))] []))
    refine Goes.go (fun _ kst => XS.iconst X25.here hx rfl (hb hby at_203) kst) ?_
    show Goes p e below s _ _ _ (T25.setTop (mkF m 204 #[.val (.int p0), .val (.int p1), .val (.int (1 : Int32)), .val (.int (1 : Int32)), .val (.int (Int32.ofNat kk)), .val (.ref b1), .val (.int (own_all (own_W vv 1) 1 0)), .val (.int ((Int32.ofNat kk) + (1 : Int32))), .val (.int (1 : Int32))] [(.int (1 : Int32))]))
    refine Goes.go (fun _ kst => XS.goto X25.here hx rfl (pc0 := 204) (pc' := 208) rfl (hb hby at_204) (by decide) (by decide) kst) ?_
    show Goes p e below s _ _ _ (T25.setTop (mkF m 208 #[.val (.int p0), .val (.int p1), .val (.int (1 : Int32)), .val (.int (1 : Int32)), .val (.int (Int32.ofNat kk)), .val (.ref b1), .val (.int (own_all (own_W vv 1) 1 0)), .val (.int ((Int32.ofNat kk) + (1 : Int32))), .val (.int (1 : Int32))] [(.int (1 : Int32))]))
    refine Goes.go (fun _ kst => XS.istore X25.here hx rfl (hb hby at_208) rfl (l' := #[.val (.int p0), .val (.int p1), .val (.int (1 : Int32)), .val (.int (1 : Int32)), .val (.int (Int32.ofNat kk)), .val (.ref b1), .val (.int (own_all (own_W vv 1) 1 0)), .val (.int ((Int32.ofNat kk) + (1 : Int32))), .val (.int (1 : Int32))]) rfl kst) ?_
    show Goes p e below s _ _ _ (T25.setTop (mkF m 210 #[.val (.int p0), .val (.int p1), .val (.int (1 : Int32)), .val (.int (1 : Int32)), .val (.int (Int32.ofNat kk)), .val (.ref b1), .val (.int (own_all (own_W vv 1) 1 0)), .val (.int ((Int32.ofNat kk) + (1 : Int32))), .val (.int (1 : Int32))] []))
    refine Goes.go (fun _ kst => XS.iload X25.here hx rfl (hb hby at_210) rfl  kst) ?_
    show Goes p e below s _ _ _ (T25.setTop (mkF m 212 #[.val (.int p0), .val (.int p1), .val (.int (1 : Int32)), .val (.int (1 : Int32)), .val (.int (Int32.ofNat kk)), .val (.ref b1), .val (.int (own_all (own_W vv 1) 1 0)), .val (.int ((Int32.ofNat kk) + (1 : Int32))), .val (.int (1 : Int32))] [(.int (1 : Int32))]))
    refine Goes.retN .boolean X25 hx hlk Bd.returns (by simp) (hb hby at_212) ?_ (by decide) (by decide)
    exact ⟨rfl, N25⟩
  · rw [show ((1 : Int32) + ((p0 &&& (2147483647 : Int32)) % (6 : Int32))) = (2 : Int32) from by rw [show ((p0 &&& (2147483647 : Int32)) % (6 : Int32)) = Int32.ofNat 1 from en]; rfl]
    show Goes p e below s _ _ _ (s₁.setTop (mkF m 10 #[.val (.int p0), .val (.int p1), .val (.int (2 : Int32)), .unset, .unset, .unset, .unset, .unset, .unset] []))
    refine Goes.go (fun _ kst => XS.iconst X0.here hx rfl (hb hby at_10) kst) ?_
    show Goes p e below s _ _ _ (s₁.setTop (mkF m 11 #[.val (.int p0), .val (.int p1), .val (.int (2 : Int32)), .unset, .unset, .unset, .unset, .unset, .unset] [(.int (1 : Int32))]))
    refine Goes.go (fun _ kst => XS.iloadN X0.here hx rfl (hb hby at_11) rfl  kst) ?_
    show Goes p e below s _ _ _ (s₁.setTop (mkF m 12 #[.val (.int p0), .val (.int p1), .val (.int (2 : Int32)), .unset, .unset, .unset, .unset, .unset, .unset] [(.int (2 : Int32)), (.int (1 : Int32))]))
    refine Goes.go (fun _ kst => XS.ishl X0.here hx rfl (hb hby at_12) rfl kst) ?_
    show Goes p e below s _ _ _ (s₁.setTop (mkF m 13 #[.val (.int p0), .val (.int p1), .val (.int (2 : Int32)), .unset, .unset, .unset, .unset, .unset, .unset] [(.int ((1 : Int32) <<< ((2 : Int32) &&& 31)))]))
    refine Goes.go (fun _ kst => XS.iconst X0.here hx rfl (hb hby at_13) kst) ?_
    show Goes p e below s _ _ _ (s₁.setTop (mkF m 14 #[.val (.int p0), .val (.int p1), .val (.int (2 : Int32)), .unset, .unset, .unset, .unset, .unset, .unset] [(.int (1 : Int32)), (.int ((1 : Int32) <<< ((2 : Int32) &&& 31)))]))
    refine Goes.go (fun _ kst => XS.isub X0.here hx rfl (hb hby at_14) rfl kst) ?_
    rw [show (((1 : Int32) <<< ((2 : Int32) &&& 31)) - (1 : Int32)) = (3 : Int32) from by decide]
    show Goes p e below s _ _ _ (s₁.setTop (mkF m 15 #[.val (.int p0), .val (.int p1), .val (.int (2 : Int32)), .unset, .unset, .unset, .unset, .unset, .unset] [(.int (3 : Int32))]))
    refine Goes.go (fun _ kst => XS.istoreN X0.here hx rfl (hb hby at_15) rfl (l' := #[.val (.int p0), .val (.int p1), .val (.int (2 : Int32)), .val (.int (3 : Int32)), .unset, .unset, .unset, .unset, .unset]) rfl kst) ?_
    show Goes p e below s _ _ _ (s₁.setTop (mkF m 16 #[.val (.int p0), .val (.int p1), .val (.int (2 : Int32)), .val (.int (3 : Int32)), .unset, .unset, .unset, .unset, .unset] []))
    refine Goes.go (fun _ kst => XS.iloadN X0.here hx rfl (hb hby at_16) rfl  kst) ?_
    show Goes p e below s _ _ _ (s₁.setTop (mkF m 17 #[.val (.int p0), .val (.int p1), .val (.int (2 : Int32)), .val (.int (3 : Int32)), .unset, .unset, .unset, .unset, .unset] [(.int p1)]))
    refine Goes.go (fun _ kst => X0.ldcInt hx hown (mvT hZ (hw _ (List.mem_of_getElem? (i := 0) rfl))) (g := (mkF m 17 #[.val (.int p0), .val (.int p1), .val (.int (2 : Int32)), .val (.int (3 : Int32)), .unset, .unset, .unset, .unset, .unset] [(.int p1)])) rfl (hb hby at_17) _ kst) ?_
    show Goes p e below s _ _ _ (s₁.setTop (mkF m 19 #[.val (.int p0), .val (.int p1), .val (.int (2 : Int32)), .val (.int (3 : Int32)), .unset, .unset, .unset, .unset, .unset] [(.int (2147483647 : Int32)), (.int p1)]))
    refine Goes.go (fun _ kst => XS.iand X0.here hx rfl (hb hby at_19) rfl kst) ?_
    show Goes p e below s _ _ _ (s₁.setTop (mkF m 20 #[.val (.int p0), .val (.int p1), .val (.int (2 : Int32)), .val (.int (3 : Int32)), .unset, .unset, .unset, .unset, .unset] [(.int (p1 &&& (2147483647 : Int32)))]))
    refine Goes.go (fun _ kst => XS.iloadN X0.here hx rfl (hb hby at_20) rfl  kst) ?_
    show Goes p e below s _ _ _ (s₁.setTop (mkF m 21 #[.val (.int p0), .val (.int p1), .val (.int (2 : Int32)), .val (.int (3 : Int32)), .unset, .unset, .unset, .unset, .unset] [(.int (3 : Int32)), (.int (p1 &&& (2147483647 : Int32)))]))
    refine Goes.go (fun _ kst => own_irem X0.here hx rfl (hb hby at_21) rfl (by decide) kst) ?_
    obtain ⟨kk, hkk, ekk⟩ := own_modN p1 3 (by decide) (by decide)
    have hT := own_t2 ⟨kk, hkk⟩
    dsimp only at hT
    obtain ⟨hfz, hall, gg0, gg1, gg2, gg3, gg4, gg5⟩ := hT
    rw [show ((p1 &&& (2147483647 : Int32)) % (3 : Int32)) = Int32.ofNat kk from ekk]
    show Goes p e below s _ _ _ (s₁.setTop (mkF m 22 #[.val (.int p0), .val (.int p1), .val (.int (2 : Int32)), .val (.int (3 : Int32)), .unset, .unset, .unset, .unset, .unset] [(.int (Int32.ofNat kk))]))
    refine Goes.go (fun _ kst => XS.istore X0.here hx rfl (hb hby at_22) rfl (l' := #[.val (.int p0), .val (.int p1), .val (.int (2 : Int32)), .val (.int (3 : Int32)), .val (.int (Int32.ofNat kk)), .unset, .unset, .unset, .unset]) rfl kst) ?_
    show Goes p e below s _ _ _ (s₁.setTop (mkF m 24 #[.val (.int p0), .val (.int p1), .val (.int (2 : Int32)), .val (.int (3 : Int32)), .val (.int (Int32.ofNat kk)), .unset, .unset, .unset, .unset] []))
    refine Goes.go (fun _ kst => XS.iloadN X0.here hx rfl (hb hby at_24) rfl  kst) ?_
    show Goes p e below s _ _ _ (s₁.setTop (mkF m 25 #[.val (.int p0), .val (.int p1), .val (.int (2 : Int32)), .val (.int (3 : Int32)), .val (.int (Int32.ofNat kk)), .unset, .unset, .unset, .unset] [(.int (2 : Int32))]))
    obtain ⟨T27, h27, X27, e27, E27, A27, EA27, st27⟩ := own_newA X0 hx hZ (hw _ (List.mem_of_getElem? (i := 1) rfl)) e0 (g := (mkF m 25 #[.val (.int p0), .val (.int p1), .val (.int (2 : Int32)), .val (.int (3 : Int32)), .val (.int (Int32.ofNat kk)), .unset, .unset, .unset, .unset] [(.int (2 : Int32))])) rfl (hb hby at_25) rfl (n := 2) rfl (cap := 2) (Nat.le_refl _) (by decide) (by decide) (by decide) (by decide) (by decide) (by decide : _ = "[Z")
    obtain ⟨b27, g27⟩ : ∃ z, z = h0.size := ⟨_, rfl⟩
    rw [← g27] at A27 EA27 st27
    have gb27 : n0 ≤ b27 := Nat.le_trans Z0 (Nat.le_of_eq g27.symm)
    have sb27 : h0.size ≤ b27 := Nat.le_trans K0.1 (Nat.le_of_eq g27.symm)
    have Z27 := Nat.le_trans Z0 E27.1
    have K27 := Keep.ext K0 E27
    refine Goes.go st27 ?_
    show Goes p e below s _ _ _ (T27.setTop (mkF m 27 #[.val (.int p0), .val (.int p1), .val (.int (2 : Int32)), .val (.int (3 : Int32)), .val (.int (Int32.ofNat kk)), .unset, .unset, .unset, .unset] [(.ref b27)]))
    refine Goes.go (fun _ kst => XS.astore X27.here hx rfl (hb hby at_27) rfl rfl (l' := #[.val (.int p0), .val (.int p1), .val (.int (2 : Int32)), .val (.int (3 : Int32)), .val (.int (Int32.ofNat kk)), .val (.ref b27), .unset, .unset, .unset]) rfl kst) ?_
    show Goes p e below s _ _ _ (T27.setTop (mkF m 29 #[.val (.int p0), .val (.int p1), .val (.int (2 : Int32)), .val (.int (3 : Int32)), .val (.int (Int32.ofNat kk)), .val (.ref b27), .unset, .unset, .unset] []))
    refine Goes.go (fun _ kst => XS.aload X27.here hx rfl (hb hby at_29) rfl rfl  kst) ?_
    show Goes p e below s _ _ _ (T27.setTop (mkF m 31 #[.val (.int p0), .val (.int p1), .val (.int (2 : Int32)), .val (.int (3 : Int32)), .val (.int (Int32.ofNat kk)), .val (.ref b27), .unset, .unset, .unset] [(.ref b27)]))
    refine Goes.go (fun _ kst => XS.iconst X27.here hx rfl (hb hby at_31) kst) ?_
    show Goes p e below s _ _ _ (T27.setTop (mkF m 32 #[.val (.int p0), .val (.int p1), .val (.int (2 : Int32)), .val (.int (3 : Int32)), .val (.int (Int32.ofNat kk)), .val (.ref b27), .unset, .unset, .unset] [(.int (0 : Int32)), (.ref b27)]))
    refine Goes.go (fun _ kst => XS.iload X27.here hx rfl (hb hby at_32) rfl  kst) ?_
    show Goes p e below s _ _ _ (T27.setTop (mkF m 34 #[.val (.int p0), .val (.int p1), .val (.int (2 : Int32)), .val (.int (3 : Int32)), .val (.int (Int32.ofNat kk)), .val (.ref b27), .unset, .unset, .unset] [(.int (Int32.ofNat kk)), (.int (0 : Int32)), (.ref b27)]))
    obtain ⟨_, _, ⟨T28, L28, k28, n28⟩, -, X28, ⟨Lc28, hQ28, l28, y28, z28⟩, st28⟩ := Jvm.LawKit.callS X27 hx (y := (⟨"com/example/surety/surety/DecompositionAdvancePinLaw", "set", "([ZII)V"⟩ : MethodName)) hown (mvT hZ (hw _ (List.mem_of_getElem? (i := 2) rfl))) (mvT hZ (hw _ (List.mem_of_getElem? (i := 3) rfl))) (mvT hZ (hw _ (List.mem_of_getElem? (i := 4) rfl))) (mvT hZ (hw _ (List.mem_of_getElem? (i := 5) rfl))) (by decide) (backOf (W := 0) (rm1a l Z a0 hw [] b27 (0 : Int32) (Int32.ofNat kk) 2 (fun _ => 0) 0 h27 n0 Z27 A27 gb27 rfl (by decide)) hZ (hw _ (List.mem_of_getElem? (i := 5) rfl)) (hw _ (List.mem_of_getElem? (i := 4) rfl)) (by decide) (by decide)) (g := (mkF m 34 #[.val (.int p0), .val (.int p1), .val (.int (2 : Int32)), .val (.int (3 : Int32)), .val (.int (Int32.ofNat kk)), .val (.ref b27), .unset, .unset, .unset] [(.int (Int32.ofNat kk)), (.int (0 : Int32)), (.ref b27)])) rfl (by rw [hml]; rfl) (argsL := [(.ref b27), (.int (0 : Int32)), (.int (Int32.ofNat kk))]) (rest := []) (lenOf pd_0 rfl) rfl (by show 2 * 0 + _ ≤ _; exact Nat.le_of_eq rfl) (hb hby at_34) (fun _ _ => ⟨rfl, e27, (by decide : 1 + 0 ≤ _), (by decide : 2 + 0 ≤ _)⟩)
    dsimp only [Pt.U, Pt.locs, Pt.cells, Pt.slots] at X28 l28 y28 z28 st28 hQ28
    subst l28 y28 z28
    obtain ⟨h28, e28⟩ : ∃ z, T28.heap = z := ⟨_, rfl⟩
    rw [e28] at hQ28
    obtain ⟨rfl, N28q, Kq28, G28_0⟩ := hQ28
    have N28 := Fr.app N0 N28q
    have K28 := Keep.trans K27 Kq28 (allS (Or.inr sb27) all0)
    have Z28 := Nat.le_trans Z27 Kq28.1
    refine Goes.go st28 ?_
    show Goes p e below s _ _ _ (T28.setTop (mkF m 37 #[.val (.int p0), .val (.int p1), .val (.int (2 : Int32)), .val (.int (3 : Int32)), .val (.int (Int32.ofNat kk)), .val (.ref b27), .unset, .unset, .unset] []))
    refine Goes.go (fun _ kst => XS.aload X28.here hx rfl (hb hby at_37) rfl rfl  kst) ?_
    show Goes p e below s _ _ _ (T28.setTop (mkF m 39 #[.val (.int p0), .val (.int p1), .val (.int (2 : Int32)), .val (.int (3 : Int32)), .val (.int (Int32.ofNat kk)), .val (.ref b27), .unset, .unset, .unset] [(.ref b27)]))
    refine Goes.go (fun _ kst => XS.iconst X28.here hx rfl (hb hby at_39) kst) ?_
    show Goes p e below s _ _ _ (T28.setTop (mkF m 40 #[.val (.int p0), .val (.int p1), .val (.int (2 : Int32)), .val (.int (3 : Int32)), .val (.int (Int32.ofNat kk)), .val (.ref b27), .unset, .unset, .unset] [(.int (1 : Int32)), (.ref b27)]))
    refine Goes.go (fun _ kst => XS.iload X28.here hx rfl (hb hby at_40) rfl  kst) ?_
    show Goes p e below s _ _ _ (T28.setTop (mkF m 42 #[.val (.int p0), .val (.int p1), .val (.int (2 : Int32)), .val (.int (3 : Int32)), .val (.int (Int32.ofNat kk)), .val (.ref b27), .unset, .unset, .unset] [(.int (Int32.ofNat kk)), (.int (1 : Int32)), (.ref b27)]))
    obtain ⟨_, _, ⟨T29, L29, k29, n29⟩, -, X29, ⟨Lc29, hQ29, l29, y29, z29⟩, st29⟩ := Jvm.LawKit.callS X28 hx (y := (⟨"com/example/surety/surety/DecompositionAdvancePinLaw", "set", "([ZII)V"⟩ : MethodName)) hown (mvT hZ (hw _ (List.mem_of_getElem? (i := 2) rfl))) (mvT hZ (hw _ (List.mem_of_getElem? (i := 3) rfl))) (mvT hZ (hw _ (List.mem_of_getElem? (i := 4) rfl))) (mvT hZ (hw _ (List.mem_of_getElem? (i := 5) rfl))) (by decide) (backOf (W := 0) (rm1a l Z a0 hw [] b27 (1 : Int32) (Int32.ofNat kk) 2 (own_upd (fun _ => 0) 0 (nar .boolean (if (((Int32.ofNat kk) >>> ((0 : Int32) &&& 31)) &&& (1 : Int32)) = (0 : Int32) then (0 : Int32) else (1 : Int32)))) 1 h28 n0 Z28 G28_0 gb27 rfl (by decide)) hZ (hw _ (List.mem_of_getElem? (i := 5) rfl)) (hw _ (List.mem_of_getElem? (i := 4) rfl)) (by decide) (by decide)) (g := (mkF m 42 #[.val (.int p0), .val (.int p1), .val (.int (2 : Int32)), .val (.int (3 : Int32)), .val (.int (Int32.ofNat kk)), .val (.ref b27), .unset, .unset, .unset] [(.int (Int32.ofNat kk)), (.int (1 : Int32)), (.ref b27)])) rfl (by rw [hml]; rfl) (argsL := [(.ref b27), (.int (1 : Int32)), (.int (Int32.ofNat kk))]) (rest := []) (lenOf pd_0 rfl) rfl (by show 2 * 0 + _ ≤ _; exact Nat.le_of_eq rfl) (hb hby at_42) (fun _ _ => ⟨rfl, e28, (by decide : 1 + 0 ≤ _), (by decide : 2 + 0 ≤ _)⟩)
    dsimp only [Pt.U, Pt.locs, Pt.cells, Pt.slots] at X29 l29 y29 z29 st29 hQ29
    subst l29 y29 z29
    obtain ⟨h29, e29⟩ : ∃ z, T29.heap = z := ⟨_, rfl⟩
    rw [e29] at hQ29
    obtain ⟨rfl, N29q, Kq29, G29_0⟩ := hQ29
    have N29 := Fr.app N28 N29q
    have K29 := Keep.trans K28 Kq29 (allS (Or.inr sb27) all0)
    have Z29 := Nat.le_trans Z28 Kq29.1
    refine Goes.go st29 ?_
    show Goes p e below s _ _ _ (T29.setTop (mkF m 45 #[.val (.int p0), .val (.int p1), .val (.int (2 : Int32)), .val (.int (3 : Int32)), .val (.int (Int32.ofNat kk)), .val (.ref b27), .unset, .unset, .unset] []))
    refine Goes.go (fun _ kst => XS.aload X29.here hx rfl (hb hby at_45) rfl rfl  kst) ?_
    show Goes p e below s _ _ _ (T29.setTop (mkF m 47 #[.val (.int p0), .val (.int p1), .val (.int (2 : Int32)), .val (.int (3 : Int32)), .val (.int (Int32.ofNat kk)), .val (.ref b27), .unset, .unset, .unset] [(.ref b27)]))
    refine Goes.go (fun _ kst => XS.iconst X29.here hx rfl (hb hby at_47) kst) ?_
    show Goes p e below s _ _ _ (T29.setTop (mkF m 48 #[.val (.int p0), .val (.int p1), .val (.int (2 : Int32)), .val (.int (3 : Int32)), .val (.int (Int32.ofNat kk)), .val (.ref b27), .unset, .unset, .unset] [(.int (2 : Int32)), (.ref b27)]))
    refine Goes.go (fun _ kst => XS.iload X29.here hx rfl (hb hby at_48) rfl  kst) ?_
    show Goes p e below s _ _ _ (T29.setTop (mkF m 50 #[.val (.int p0), .val (.int p1), .val (.int (2 : Int32)), .val (.int (3 : Int32)), .val (.int (Int32.ofNat kk)), .val (.ref b27), .unset, .unset, .unset] [(.int (Int32.ofNat kk)), (.int (2 : Int32)), (.ref b27)]))
    obtain ⟨_, _, ⟨T30, L30, k30, n30⟩, -, X30, ⟨Lc30, hQ30, l30, y30, z30⟩, st30⟩ := Jvm.LawKit.callS X29 hx (y := (⟨"com/example/surety/surety/DecompositionAdvancePinLaw", "set", "([ZII)V"⟩ : MethodName)) hown (mvT hZ (hw _ (List.mem_of_getElem? (i := 2) rfl))) (mvT hZ (hw _ (List.mem_of_getElem? (i := 3) rfl))) (mvT hZ (hw _ (List.mem_of_getElem? (i := 4) rfl))) (mvT hZ (hw _ (List.mem_of_getElem? (i := 5) rfl))) (by decide) (backOf (W := 0) (rm1b l Z a0 hw [] b27 (2 : Int32) (Int32.ofNat kk) 2 (own_upd (own_upd (fun _ => 0) 0 (nar .boolean (if (((Int32.ofNat kk) >>> ((0 : Int32) &&& 31)) &&& (1 : Int32)) = (0 : Int32) then (0 : Int32) else (1 : Int32)))) 1 (nar .boolean (if (((Int32.ofNat kk) >>> ((1 : Int32) &&& 31)) &&& (1 : Int32)) = (0 : Int32) then (0 : Int32) else (1 : Int32)))) 2 h29 n0 Z29 G29_0 gb27 rfl (by decide) (by decide)) hZ (hw _ (List.mem_of_getElem? (i := 5) rfl)) (hw _ (List.mem_of_getElem? (i := 4) rfl)) (by decide) (by decide)) (g := (mkF m 50 #[.val (.int p0), .val (.int p1), .val (.int (2 : Int32)), .val (.int (3 : Int32)), .val (.int (Int32.ofNat kk)), .val (.ref b27), .unset, .unset, .unset] [(.int (Int32.ofNat kk)), (.int (2 : Int32)), (.ref b27)])) rfl (by rw [hml]; rfl) (argsL := [(.ref b27), (.int (2 : Int32)), (.int (Int32.ofNat kk))]) (rest := []) (lenOf pd_0 rfl) rfl (by show 2 * 0 + _ ≤ _; exact Nat.le_of_eq rfl) (hb hby at_50) (fun _ _ => ⟨rfl, e29, (by decide : 1 + 0 ≤ _), (by decide : 2 + 0 ≤ _)⟩)
    dsimp only [Pt.U, Pt.locs, Pt.cells, Pt.slots] at X30 l30 y30 z30 st30 hQ30
    subst l30 y30 z30
    obtain ⟨rfl, N30q, e30⟩ := hQ30
    have N30 := Fr.app N29 N30q
    refine Goes.go st30 ?_
    show Goes p e below s _ _ _ (T30.setTop (mkF m 53 #[.val (.int p0), .val (.int p1), .val (.int (2 : Int32)), .val (.int (3 : Int32)), .val (.int (Int32.ofNat kk)), .val (.ref b27), .unset, .unset, .unset] []))
    refine Goes.go (fun _ kst => XS.aload X30.here hx rfl (hb hby at_53) rfl rfl  kst) ?_
    show Goes p e below s _ _ _ (T30.setTop (mkF m 55 #[.val (.int p0), .val (.int p1), .val (.int (2 : Int32)), .val (.int (3 : Int32)), .val (.int (Int32.ofNat kk)), .val (.ref b27), .unset, .unset, .unset] [(.ref b27)]))
    refine Goes.go (fun _ kst => XS.iconst X30.here hx rfl (hb hby at_55) kst) ?_
    show Goes p e below s _ _ _ (T30.setTop (mkF m 56 #[.val (.int p0), .val (.int p1), .val (.int (2 : Int32)), .val (.int (3 : Int32)), .val (.int (Int32.ofNat kk)), .val (.ref b27), .unset, .unset, .unset] [(.int (3 : Int32)), (.ref b27)]))
    refine Goes.go (fun _ kst => XS.iload X30.here hx rfl (hb hby at_56) rfl  kst) ?_
    show Goes p e below s _ _ _ (T30.setTop (mkF m 58 #[.val (.int p0), .val (.int p1), .val (.int (2 : Int32)), .val (.int (3 : Int32)), .val (.int (Int32.ofNat kk)), .val (.ref b27), .unset, .unset, .unset] [(.int (Int32.ofNat kk)), (.int (3 : Int32)), (.ref b27)]))
    obtain ⟨_, _, ⟨T31, L31, k31, n31⟩, -, X31, ⟨Lc31, hQ31, l31, y31, z31⟩, st31⟩ := Jvm.LawKit.callS X30 hx (y := (⟨"com/example/surety/surety/DecompositionAdvancePinLaw", "set", "([ZII)V"⟩ : MethodName)) hown (mvT hZ (hw _ (List.mem_of_getElem? (i := 2) rfl))) (mvT hZ (hw _ (List.mem_of_getElem? (i := 3) rfl))) (mvT hZ (hw _ (List.mem_of_getElem? (i := 4) rfl))) (mvT hZ (hw _ (List.mem_of_getElem? (i := 5) rfl))) (by decide) (backOf (W := 0) (rm1b l Z a0 hw [] b27 (3 : Int32) (Int32.ofNat kk) 2 (own_upd (own_upd (fun _ => 0) 0 (nar .boolean (if (((Int32.ofNat kk) >>> ((0 : Int32) &&& 31)) &&& (1 : Int32)) = (0 : Int32) then (0 : Int32) else (1 : Int32)))) 1 (nar .boolean (if (((Int32.ofNat kk) >>> ((1 : Int32) &&& 31)) &&& (1 : Int32)) = (0 : Int32) then (0 : Int32) else (1 : Int32)))) 3 h29 n0 Z29 G29_0 gb27 rfl (by decide) (by decide)) hZ (hw _ (List.mem_of_getElem? (i := 5) rfl)) (hw _ (List.mem_of_getElem? (i := 4) rfl)) (by decide) (by decide)) (g := (mkF m 58 #[.val (.int p0), .val (.int p1), .val (.int (2 : Int32)), .val (.int (3 : Int32)), .val (.int (Int32.ofNat kk)), .val (.ref b27), .unset, .unset, .unset] [(.int (Int32.ofNat kk)), (.int (3 : Int32)), (.ref b27)])) rfl (by rw [hml]; rfl) (argsL := [(.ref b27), (.int (3 : Int32)), (.int (Int32.ofNat kk))]) (rest := []) (lenOf pd_0 rfl) rfl (by show 2 * 0 + _ ≤ _; exact Nat.le_of_eq rfl) (hb hby at_58) (fun _ _ => ⟨rfl, e30, (by decide : 1 + 0 ≤ _), (by decide : 2 + 0 ≤ _)⟩)
    dsimp only [Pt.U, Pt.locs, Pt.cells, Pt.slots] at X31 l31 y31 z31 st31 hQ31
    subst l31 y31 z31
    obtain ⟨rfl, N31q, e31⟩ := hQ31
    have N31 := Fr.app N30 N31q
    refine Goes.go st31 ?_
    show Goes p e below s _ _ _ (T31.setTop (mkF m 61 #[.val (.int p0), .val (.int p1), .val (.int (2 : Int32)), .val (.int (3 : Int32)), .val (.int (Int32.ofNat kk)), .val (.ref b27), .unset, .unset, .unset] []))
    refine Goes.go (fun _ kst => XS.aload X31.here hx rfl (hb hby at_61) rfl rfl  kst) ?_
    show Goes p e below s _ _ _ (T31.setTop (mkF m 63 #[.val (.int p0), .val (.int p1), .val (.int (2 : Int32)), .val (.int (3 : Int32)), .val (.int (Int32.ofNat kk)), .val (.ref b27), .unset, .unset, .unset] [(.ref b27)]))
    refine Goes.go (fun _ kst => XS.iconst X31.here hx rfl (hb hby at_63) kst) ?_
    show Goes p e below s _ _ _ (T31.setTop (mkF m 64 #[.val (.int p0), .val (.int p1), .val (.int (2 : Int32)), .val (.int (3 : Int32)), .val (.int (Int32.ofNat kk)), .val (.ref b27), .unset, .unset, .unset] [(.int (4 : Int32)), (.ref b27)]))
    refine Goes.go (fun _ kst => XS.iload X31.here hx rfl (hb hby at_64) rfl  kst) ?_
    show Goes p e below s _ _ _ (T31.setTop (mkF m 66 #[.val (.int p0), .val (.int p1), .val (.int (2 : Int32)), .val (.int (3 : Int32)), .val (.int (Int32.ofNat kk)), .val (.ref b27), .unset, .unset, .unset] [(.int (Int32.ofNat kk)), (.int (4 : Int32)), (.ref b27)]))
    obtain ⟨_, _, ⟨T32, L32, k32, n32⟩, -, X32, ⟨Lc32, hQ32, l32, y32, z32⟩, st32⟩ := Jvm.LawKit.callS X31 hx (y := (⟨"com/example/surety/surety/DecompositionAdvancePinLaw", "set", "([ZII)V"⟩ : MethodName)) hown (mvT hZ (hw _ (List.mem_of_getElem? (i := 2) rfl))) (mvT hZ (hw _ (List.mem_of_getElem? (i := 3) rfl))) (mvT hZ (hw _ (List.mem_of_getElem? (i := 4) rfl))) (mvT hZ (hw _ (List.mem_of_getElem? (i := 5) rfl))) (by decide) (backOf (W := 0) (rm1b l Z a0 hw [] b27 (4 : Int32) (Int32.ofNat kk) 2 (own_upd (own_upd (fun _ => 0) 0 (nar .boolean (if (((Int32.ofNat kk) >>> ((0 : Int32) &&& 31)) &&& (1 : Int32)) = (0 : Int32) then (0 : Int32) else (1 : Int32)))) 1 (nar .boolean (if (((Int32.ofNat kk) >>> ((1 : Int32) &&& 31)) &&& (1 : Int32)) = (0 : Int32) then (0 : Int32) else (1 : Int32)))) 4 h29 n0 Z29 G29_0 gb27 rfl (by decide) (by decide)) hZ (hw _ (List.mem_of_getElem? (i := 5) rfl)) (hw _ (List.mem_of_getElem? (i := 4) rfl)) (by decide) (by decide)) (g := (mkF m 66 #[.val (.int p0), .val (.int p1), .val (.int (2 : Int32)), .val (.int (3 : Int32)), .val (.int (Int32.ofNat kk)), .val (.ref b27), .unset, .unset, .unset] [(.int (Int32.ofNat kk)), (.int (4 : Int32)), (.ref b27)])) rfl (by rw [hml]; rfl) (argsL := [(.ref b27), (.int (4 : Int32)), (.int (Int32.ofNat kk))]) (rest := []) (lenOf pd_0 rfl) rfl (by show 2 * 0 + _ ≤ _; exact Nat.le_of_eq rfl) (hb hby at_66) (fun _ _ => ⟨rfl, e31, (by decide : 1 + 0 ≤ _), (by decide : 2 + 0 ≤ _)⟩)
    dsimp only [Pt.U, Pt.locs, Pt.cells, Pt.slots] at X32 l32 y32 z32 st32 hQ32
    subst l32 y32 z32
    obtain ⟨rfl, N32q, e32⟩ := hQ32
    have N32 := Fr.app N31 N32q
    refine Goes.go st32 ?_
    show Goes p e below s _ _ _ (T32.setTop (mkF m 69 #[.val (.int p0), .val (.int p1), .val (.int (2 : Int32)), .val (.int (3 : Int32)), .val (.int (Int32.ofNat kk)), .val (.ref b27), .unset, .unset, .unset] []))
    refine Goes.go (fun _ kst => XS.aload X32.here hx rfl (hb hby at_69) rfl rfl  kst) ?_
    show Goes p e below s _ _ _ (T32.setTop (mkF m 71 #[.val (.int p0), .val (.int p1), .val (.int (2 : Int32)), .val (.int (3 : Int32)), .val (.int (Int32.ofNat kk)), .val (.ref b27), .unset, .unset, .unset] [(.ref b27)]))
    refine Goes.go (fun _ kst => XS.iconst X32.here hx rfl (hb hby at_71) kst) ?_
    show Goes p e below s _ _ _ (T32.setTop (mkF m 72 #[.val (.int p0), .val (.int p1), .val (.int (2 : Int32)), .val (.int (3 : Int32)), .val (.int (Int32.ofNat kk)), .val (.ref b27), .unset, .unset, .unset] [(.int (5 : Int32)), (.ref b27)]))
    refine Goes.go (fun _ kst => XS.iload X32.here hx rfl (hb hby at_72) rfl  kst) ?_
    show Goes p e below s _ _ _ (T32.setTop (mkF m 74 #[.val (.int p0), .val (.int p1), .val (.int (2 : Int32)), .val (.int (3 : Int32)), .val (.int (Int32.ofNat kk)), .val (.ref b27), .unset, .unset, .unset] [(.int (Int32.ofNat kk)), (.int (5 : Int32)), (.ref b27)]))
    obtain ⟨_, _, ⟨T33, L33, k33, n33⟩, -, X33, ⟨Lc33, hQ33, l33, y33, z33⟩, st33⟩ := Jvm.LawKit.callS X32 hx (y := (⟨"com/example/surety/surety/DecompositionAdvancePinLaw", "set", "([ZII)V"⟩ : MethodName)) hown (mvT hZ (hw _ (List.mem_of_getElem? (i := 2) rfl))) (mvT hZ (hw _ (List.mem_of_getElem? (i := 3) rfl))) (mvT hZ (hw _ (List.mem_of_getElem? (i := 4) rfl))) (mvT hZ (hw _ (List.mem_of_getElem? (i := 5) rfl))) (by decide) (backOf (W := 0) (rm1b l Z a0 hw [] b27 (5 : Int32) (Int32.ofNat kk) 2 (own_upd (own_upd (fun _ => 0) 0 (nar .boolean (if (((Int32.ofNat kk) >>> ((0 : Int32) &&& 31)) &&& (1 : Int32)) = (0 : Int32) then (0 : Int32) else (1 : Int32)))) 1 (nar .boolean (if (((Int32.ofNat kk) >>> ((1 : Int32) &&& 31)) &&& (1 : Int32)) = (0 : Int32) then (0 : Int32) else (1 : Int32)))) 5 h29 n0 Z29 G29_0 gb27 rfl (by decide) (by decide)) hZ (hw _ (List.mem_of_getElem? (i := 5) rfl)) (hw _ (List.mem_of_getElem? (i := 4) rfl)) (by decide) (by decide)) (g := (mkF m 74 #[.val (.int p0), .val (.int p1), .val (.int (2 : Int32)), .val (.int (3 : Int32)), .val (.int (Int32.ofNat kk)), .val (.ref b27), .unset, .unset, .unset] [(.int (Int32.ofNat kk)), (.int (5 : Int32)), (.ref b27)])) rfl (by rw [hml]; rfl) (argsL := [(.ref b27), (.int (5 : Int32)), (.int (Int32.ofNat kk))]) (rest := []) (lenOf pd_0 rfl) rfl (by show 2 * 0 + _ ≤ _; exact Nat.le_of_eq rfl) (hb hby at_74) (fun _ _ => ⟨rfl, e32, (by decide : 1 + 0 ≤ _), (by decide : 2 + 0 ≤ _)⟩)
    dsimp only [Pt.U, Pt.locs, Pt.cells, Pt.slots] at X33 l33 y33 z33 st33 hQ33
    subst l33 y33 z33
    obtain ⟨rfl, N33q, e33⟩ := hQ33
    have N33 := Fr.app N32 N33q
    refine Goes.go st33 ?_
    have An34 := G29_0
    generalize hv_vv : (own_upd (own_upd (fun _ => 0) 0 (nar .boolean (if (((Int32.ofNat kk) >>> ((0 : Int32) &&& 31)) &&& (1 : Int32)) = (0 : Int32) then (0 : Int32) else (1 : Int32)))) 1 (nar .boolean (if (((Int32.ofNat kk) >>> ((1 : Int32) &&& 31)) &&& (1 : Int32)) = (0 : Int32) then (0 : Int32) else (1 : Int32)))) = vv at An34 hfz hall gg0 gg1 gg2 gg3 gg4 gg5
    show Goes p e below s _ _ _ (T33.setTop (mkF m 77 #[.val (.int p0), .val (.int p1), .val (.int (2 : Int32)), .val (.int (3 : Int32)), .val (.int (Int32.ofNat kk)), .val (.ref b27), .unset, .unset, .unset] []))
    refine Goes.go (fun _ kst => XS.aload X33.here hx rfl (hb hby at_77) rfl rfl  kst) ?_
    show Goes p e below s _ _ _ (T33.setTop (mkF m 79 #[.val (.int p0), .val (.int p1), .val (.int (2 : Int32)), .val (.int (3 : Int32)), .val (.int (Int32.ofNat kk)), .val (.ref b27), .unset, .unset, .unset] [(.ref b27)]))
    obtain ⟨_, _, ⟨T35, L35, k35, n35⟩, -, X35, ⟨Lc35, hQ35, l35, y35, z35⟩, st35⟩ := Jvm.LawKit.callS X33 hx (y := (⟨"com/example/surety/surety/Decomposition", "advance", "([Z)Z"⟩ : MethodName)) hown (mvT hZ (hw _ (List.mem_of_getElem? (i := 6) rfl))) (mvT hZ (hw _ (List.mem_of_getElem? (i := 7) rfl))) (mvT hZ (hw _ (List.mem_of_getElem? (i := 8) rfl))) (mvT hZ (hw _ (List.mem_of_getElem? (i := 9) rfl))) (by decide) (backOf (W := 0) (rm2 l Z a0 hw [] b27 2 vv h29 n0 Z29 An34 gb27 hfz) hZ (hw _ (List.mem_of_getElem? (i := 9) rfl)) (hw _ (List.mem_of_getElem? (i := 8) rfl)) (by decide) (by decide)) (g := (mkF m 79 #[.val (.int p0), .val (.int p1), .val (.int (2 : Int32)), .val (.int (3 : Int32)), .val (.int (Int32.ofNat kk)), .val (.ref b27), .unset, .unset, .unset] [(.ref b27)])) rfl (by rw [hml]; rfl) (argsL := [(.ref b27)]) (rest := []) (lenOf pd_1 rfl) rfl (by show 2 * 0 + _ ≤ _; exact Nat.le_of_eq rfl) (hb hby at_79) (fun _ _ => ⟨rfl, e33, (by decide : 1 + 0 ≤ _), (by decide : 2 + 0 ≤ _)⟩)
    dsimp only [Pt.U, Pt.locs, Pt.cells, Pt.slots] at X35 l35 y35 z35 st35 hQ35
    subst l35 y35 z35
    obtain ⟨h35, e35⟩ : ∃ z, T35.heap = z := ⟨_, rfl⟩
    rw [e35] at hQ35
    obtain ⟨rfl, N35q, Kq35, A35⟩ := hQ35
    have N35 := Fr.app N33 N35q
    have K35 := Keep.trans K29 Kq35 (allS (Or.inr sb27) all0)
    have Z35 := Nat.le_trans Z29 Kq35.1
    refine Goes.go st35 ?_
    show Goes p e below s _ _ _ (T35.setTop (mkF m 82 #[.val (.int p0), .val (.int p1), .val (.int (2 : Int32)), .val (.int (3 : Int32)), .val (.int (Int32.ofNat kk)), .val (.ref b27), .unset, .unset, .unset] [(.int (own_all (own_W vv 2) 2 0))]))
    refine Goes.go (fun _ kst => XS.istore X35.here hx rfl (hb hby at_82) rfl (l' := #[.val (.int p0), .val (.int p1), .val (.int (2 : Int32)), .val (.int (3 : Int32)), .val (.int (Int32.ofNat kk)), .val (.ref b27), .val (.int (own_all (own_W vv 2) 2 0)), .unset, .unset]) rfl kst) ?_
    show Goes p e below s _ _ _ (T35.setTop (mkF m 84 #[.val (.int p0), .val (.int p1), .val (.int (2 : Int32)), .val (.int (3 : Int32)), .val (.int (Int32.ofNat kk)), .val (.ref b27), .val (.int (own_all (own_W vv 2) 2 0)), .unset, .unset] []))
    refine Goes.go (fun _ kst => XS.iload X35.here hx rfl (hb hby at_84) rfl  kst) ?_
    show Goes p e below s _ _ _ (T35.setTop (mkF m 86 #[.val (.int p0), .val (.int p1), .val (.int (2 : Int32)), .val (.int (3 : Int32)), .val (.int (Int32.ofNat kk)), .val (.ref b27), .val (.int (own_all (own_W vv 2) 2 0)), .unset, .unset] [(.int (Int32.ofNat kk))]))
    refine Goes.go (fun _ kst => XS.iconst X35.here hx rfl (hb hby at_86) kst) ?_
    show Goes p e below s _ _ _ (T35.setTop (mkF m 87 #[.val (.int p0), .val (.int p1), .val (.int (2 : Int32)), .val (.int (3 : Int32)), .val (.int (Int32.ofNat kk)), .val (.ref b27), .val (.int (own_all (own_W vv 2) 2 0)), .unset, .unset] [(.int (1 : Int32)), (.int (Int32.ofNat kk))]))
    refine Goes.go (fun _ kst => XS.iadd X35.here hx rfl (hb hby at_87) rfl kst) ?_
    show Goes p e below s _ _ _ (T35.setTop (mkF m 88 #[.val (.int p0), .val (.int p1), .val (.int (2 : Int32)), .val (.int (3 : Int32)), .val (.int (Int32.ofNat kk)), .val (.ref b27), .val (.int (own_all (own_W vv 2) 2 0)), .unset, .unset] [(.int ((Int32.ofNat kk) + (1 : Int32)))]))
    refine Goes.go (fun _ kst => XS.istore X35.here hx rfl (hb hby at_88) rfl (l' := #[.val (.int p0), .val (.int p1), .val (.int (2 : Int32)), .val (.int (3 : Int32)), .val (.int (Int32.ofNat kk)), .val (.ref b27), .val (.int (own_all (own_W vv 2) 2 0)), .val (.int ((Int32.ofNat kk) + (1 : Int32))), .unset]) rfl kst) ?_
    show Goes p e below s _ _ _ (T35.setTop (mkF m 90 #[.val (.int p0), .val (.int p1), .val (.int (2 : Int32)), .val (.int (3 : Int32)), .val (.int (Int32.ofNat kk)), .val (.ref b27), .val (.int (own_all (own_W vv 2) 2 0)), .val (.int ((Int32.ofNat kk) + (1 : Int32))), .unset] []))
    refine Goes.go (fun _ kst => XS.aload X35.here hx rfl (hb hby at_90) rfl rfl  kst) ?_
    show Goes p e below s _ _ _ (T35.setTop (mkF m 92 #[.val (.int p0), .val (.int p1), .val (.int (2 : Int32)), .val (.int (3 : Int32)), .val (.int (Int32.ofNat kk)), .val (.ref b27), .val (.int (own_all (own_W vv 2) 2 0)), .val (.int ((Int32.ofNat kk) + (1 : Int32))), .unset] [(.ref b27)]))
    refine Goes.go (own_len X35 hx hZ e35 A35 (g := (mkF m 92 #[.val (.int p0), .val (.int p1), .val (.int (2 : Int32)), .val (.int (3 : Int32)), .val (.int (Int32.ofNat kk)), .val (.ref b27), .val (.int (own_all (own_W vv 2) 2 0)), .val (.int ((Int32.ofNat kk) + (1 : Int32))), .unset] [(.ref b27)])) rfl rfl (hb hby at_92)) ?_
    show Goes p e below s _ _ _ (T35.setTop (mkF m 93 #[.val (.int p0), .val (.int p1), .val (.int (2 : Int32)), .val (.int (3 : Int32)), .val (.int (Int32.ofNat kk)), .val (.ref b27), .val (.int (own_all (own_W vv 2) 2 0)), .val (.int ((Int32.ofNat kk) + (1 : Int32))), .unset] [(.int (2 : Int32))]))
    refine Goes.go (fun _ kst => XS.iloadN X35.here hx rfl (hb hby at_93) rfl  kst) ?_
    show Goes p e below s _ _ _ (T35.setTop (mkF m 94 #[.val (.int p0), .val (.int p1), .val (.int (2 : Int32)), .val (.int (3 : Int32)), .val (.int (Int32.ofNat kk)), .val (.ref b27), .val (.int (own_all (own_W vv 2) 2 0)), .val (.int ((Int32.ofNat kk) + (1 : Int32))), .unset] [(.int (2 : Int32)), (.int (2 : Int32))]))
    have hc94_36 : (2 : Int32) = (2 : Int32) := (by decide)
    refine Goes.go (fun _ kst => XS.icmpNo X35.here hx rfl (hb hby at_94) rfl (teq hc94_36).2 kst) ?_
    show Goes p e below s _ _ _ (T35.setTop (mkF m 97 #[.val (.int p0), .val (.int p1), .val (.int (2 : Int32)), .val (.int (3 : Int32)), .val (.int (Int32.ofNat kk)), .val (.ref b27), .val (.int (own_all (own_W vv 2) 2 0)), .val (.int ((Int32.ofNat kk) + (1 : Int32))), .unset] []))
    refine Goes.go (fun _ kst => XS.iload X35.here hx rfl (hb hby at_97) rfl  kst) ?_
    show Goes p e below s _ _ _ (T35.setTop (mkF m 99 #[.val (.int p0), .val (.int p1), .val (.int (2 : Int32)), .val (.int (3 : Int32)), .val (.int (Int32.ofNat kk)), .val (.ref b27), .val (.int (own_all (own_W vv 2) 2 0)), .val (.int ((Int32.ofNat kk) + (1 : Int32))), .unset] [(.int (own_all (own_W vv 2) 2 0))]))
    refine Goes.go (fun _ kst => XS.iload X35.here hx rfl (hb hby at_99) rfl  kst) ?_
    show Goes p e below s _ _ _ (T35.setTop (mkF m 101 #[.val (.int p0), .val (.int p1), .val (.int (2 : Int32)), .val (.int (3 : Int32)), .val (.int (Int32.ofNat kk)), .val (.ref b27), .val (.int (own_all (own_W vv 2) 2 0)), .val (.int ((Int32.ofNat kk) + (1 : Int32))), .unset] [(.int ((Int32.ofNat kk) + (1 : Int32))), (.int (own_all (own_W vv 2) 2 0))]))
    refine Goes.go (fun _ kst => XS.iloadN X35.here hx rfl (hb hby at_101) rfl  kst) ?_
    show Goes p e below s _ _ _ (T35.setTop (mkF m 102 #[.val (.int p0), .val (.int p1), .val (.int (2 : Int32)), .val (.int (3 : Int32)), .val (.int (Int32.ofNat kk)), .val (.ref b27), .val (.int (own_all (own_W vv 2) 2 0)), .val (.int ((Int32.ofNat kk) + (1 : Int32))), .unset] [(.int (3 : Int32)), (.int ((Int32.ofNat kk) + (1 : Int32))), (.int (own_all (own_W vv 2) 2 0))]))
    obtain ⟨z37_s0, hz37_s0⟩ : ∃ z : Int32, z = if ((Int32.ofNat kk) + (1 : Int32)) = (3 : Int32) then (0 : Int32) else (1 : Int32) := ⟨_, rfl⟩
    have sm37 : ∀ t, Steps p.tables e below (T35.setTop (mkF m 110 #[.val (.int p0), .val (.int p1), .val (.int (2 : Int32)), .val (.int (3 : Int32)), .val (.int (Int32.ofNat kk)), .val (.ref b27), .val (.int (own_all (own_W vv 2) 2 0)), .val (.int ((Int32.ofNat kk) + (1 : Int32))), .unset] [(.int z37_s0), (.int (own_all (own_W vv 2) 2 0))])) t → Steps p.tables e below (T35.setTop (mkF m 102 #[.val (.int p0), .val (.int p1), .val (.int (2 : Int32)), .val (.int (3 : Int32)), .val (.int (Int32.ofNat kk)), .val (.ref b27), .val (.int (own_all (own_W vv 2) 2 0)), .val (.int ((Int32.ofNat kk) + (1 : Int32))), .unset] [(.int (3 : Int32)), (.int ((Int32.ofNat kk) + (1 : Int32))), (.int (own_all (own_W vv 2) 2 0))])) t := by
      intro t kst
      by_cases hc102_37 : ((Int32.ofNat kk) + (1 : Int32)) = (3 : Int32)
      · have kst2 : Steps p.tables e below (T35.setTop (mkF m 110 #[.val (.int p0), .val (.int p1), .val (.int (2 : Int32)), .val (.int (3 : Int32)), .val (.int (Int32.ofNat kk)), .val (.ref b27), .val (.int (own_all (own_W vv 2) 2 0)), .val (.int ((Int32.ofNat kk) + (1 : Int32))), .unset] [(.int (0 : Int32)), (.int (own_all (own_W vv 2) 2 0))])) t := by simpa only [hz37_s0, if_pos hc102_37] using kst
        show Steps p.tables e below (T35.setTop (mkF m 102 #[.val (.int p0), .val (.int p1), .val (.int (2 : Int32)), .val (.int (3 : Int32)), .val (.int (Int32.ofNat kk)), .val (.ref b27), .val (.int (own_all (own_W vv 2) 2 0)), .val (.int ((Int32.ofNat kk) + (1 : Int32))), .unset] [(.int (3 : Int32)), (.int ((Int32.ofNat kk) + (1 : Int32))), (.int (own_all (own_W vv 2) 2 0))])) _
        refine XS.icmpYes X35.here hx rfl (pc0 := 102) (pc' := 109) rfl (hb hby at_102) rfl (teq hc102_37).1 (by decide) (by decide) ?_
        show Steps p.tables e below (T35.setTop (mkF m 109 #[.val (.int p0), .val (.int p1), .val (.int (2 : Int32)), .val (.int (3 : Int32)), .val (.int (Int32.ofNat kk)), .val (.ref b27), .val (.int (own_all (own_W vv 2) 2 0)), .val (.int ((Int32.ofNat kk) + (1 : Int32))), .unset] [(.int (own_all (own_W vv 2) 2 0))])) _
        refine XS.iconst X35.here hx rfl (hb hby at_109) ?_
        exact kst2
      · have kst2 : Steps p.tables e below (T35.setTop (mkF m 110 #[.val (.int p0), .val (.int p1), .val (.int (2 : Int32)), .val (.int (3 : Int32)), .val (.int (Int32.ofNat kk)), .val (.ref b27), .val (.int (own_all (own_W vv 2) 2 0)), .val (.int ((Int32.ofNat kk) + (1 : Int32))), .unset] [(.int (1 : Int32)), (.int (own_all (own_W vv 2) 2 0))])) t := by simpa only [hz37_s0, if_neg hc102_37] using kst
        show Steps p.tables e below (T35.setTop (mkF m 102 #[.val (.int p0), .val (.int p1), .val (.int (2 : Int32)), .val (.int (3 : Int32)), .val (.int (Int32.ofNat kk)), .val (.ref b27), .val (.int (own_all (own_W vv 2) 2 0)), .val (.int ((Int32.ofNat kk) + (1 : Int32))), .unset] [(.int (3 : Int32)), (.int ((Int32.ofNat kk) + (1 : Int32))), (.int (own_all (own_W vv 2) 2 0))])) _
        refine XS.icmpNo X35.here hx rfl (hb hby at_102) rfl (feq hc102_37).1 ?_
        show Steps p.tables e below (T35.setTop (mkF m 105 #[.val (.int p0), .val (.int p1), .val (.int (2 : Int32)), .val (.int (3 : Int32)), .val (.int (Int32.ofNat kk)), .val (.ref b27), .val (.int (own_all (own_W vv 2) 2 0)), .val (.int ((Int32.ofNat kk) + (1 : Int32))), .unset] [(.int (own_all (own_W vv 2) 2 0))])) _
        refine XS.iconst X35.here hx rfl (hb hby at_105) ?_
        show Steps p.tables e below (T35.setTop (mkF m 106 #[.val (.int p0), .val (.int p1), .val (.int (2 : Int32)), .val (.int (3 : Int32)), .val (.int (Int32.ofNat kk)), .val (.ref b27), .val (.int (own_all (own_W vv 2) 2 0)), .val (.int ((Int32.ofNat kk) + (1 : Int32))), .unset] [(.int (1 : Int32)), (.int (own_all (own_W vv 2) 2 0))])) _
        refine XS.goto X35.here hx rfl (pc0 := 106) (pc' := 110) rfl (hb hby at_106) (by decide) (by decide) ?_
        exact kst2
    refine Goes.go sm37 ?_
    show Goes p e below s _ _ _ (T35.setTop (mkF m 110 #[.val (.int p0), .val (.int p1), .val (.int (2 : Int32)), .val (.int (3 : Int32)), .val (.int (Int32.ofNat kk)), .val (.ref b27), .val (.int (own_all (own_W vv 2) 2 0)), .val (.int ((Int32.ofNat kk) + (1 : Int32))), .unset] [(.int z37_s0), (.int (own_all (own_W vv 2) 2 0))]))
    have hc110_38 : (own_all (own_W vv 2) 2 0) = z37_s0 := by rw [hz37_s0]; exact hall
    refine Goes.go (fun _ kst => XS.icmpNo X35.here hx rfl (hb hby at_110) rfl (teq hc110_38).2 kst) ?_
    show Goes p e below s _ _ _ (T35.setTop (mkF m 113 #[.val (.int p0), .val (.int p1), .val (.int (2 : Int32)), .val (.int (3 : Int32)), .val (.int (Int32.ofNat kk)), .val (.ref b27), .val (.int (own_all (own_W vv 2) 2 0)), .val (.int ((Int32.ofNat kk) + (1 : Int32))), .unset] []))
    refine Goes.go (fun _ kst => XS.iconst X35.here hx rfl (hb hby at_113) kst) ?_
    show Goes p e below s _ _ _ (T35.setTop (mkF m 114 #[.val (.int p0), .val (.int p1), .val (.int (2 : Int32)), .val (.int (3 : Int32)), .val (.int (Int32.ofNat kk)), .val (.ref b27), .val (.int (own_all (own_W vv 2) 2 0)), .val (.int ((Int32.ofNat kk) + (1 : Int32))), .unset] [(.int (1 : Int32))]))
    refine Goes.go (fun _ kst => XS.goto X35.here hx rfl (pc0 := 114) (pc' := 118) rfl (hb hby at_114) (by decide) (by decide) kst) ?_
    show Goes p e below s _ _ _ (T35.setTop (mkF m 118 #[.val (.int p0), .val (.int p1), .val (.int (2 : Int32)), .val (.int (3 : Int32)), .val (.int (Int32.ofNat kk)), .val (.ref b27), .val (.int (own_all (own_W vv 2) 2 0)), .val (.int ((Int32.ofNat kk) + (1 : Int32))), .unset] [(.int (1 : Int32))]))
    refine Goes.go (fun _ kst => XS.istore X35.here hx rfl (hb hby at_118) rfl (l' := #[.val (.int p0), .val (.int p1), .val (.int (2 : Int32)), .val (.int (3 : Int32)), .val (.int (Int32.ofNat kk)), .val (.ref b27), .val (.int (own_all (own_W vv 2) 2 0)), .val (.int ((Int32.ofNat kk) + (1 : Int32))), .val (.int (1 : Int32))]) rfl kst) ?_
    show Goes p e below s _ _ _ (T35.setTop (mkF m 120 #[.val (.int p0), .val (.int p1), .val (.int (2 : Int32)), .val (.int (3 : Int32)), .val (.int (Int32.ofNat kk)), .val (.ref b27), .val (.int (own_all (own_W vv 2) 2 0)), .val (.int ((Int32.ofNat kk) + (1 : Int32))), .val (.int (1 : Int32))] []))
    refine Goes.go (fun _ kst => XS.iload X35.here hx rfl (hb hby at_120) rfl  kst) ?_
    show Goes p e below s _ _ _ (T35.setTop (mkF m 122 #[.val (.int p0), .val (.int p1), .val (.int (2 : Int32)), .val (.int (3 : Int32)), .val (.int (Int32.ofNat kk)), .val (.ref b27), .val (.int (own_all (own_W vv 2) 2 0)), .val (.int ((Int32.ofNat kk) + (1 : Int32))), .val (.int (1 : Int32))] [(.int (1 : Int32))]))
    have hc122_39 : ¬ ((1 : Int32) = (0 : Int32)) := (by decide)
    refine Goes.go (fun _ kst => XS.ifNo X35.here hx rfl (hb hby at_122) rfl ((if0 _ _).trans (feq hc122_39).1) kst) ?_
    show Goes p e below s _ _ _ (T35.setTop (mkF m 125 #[.val (.int p0), .val (.int p1), .val (.int (2 : Int32)), .val (.int (3 : Int32)), .val (.int (Int32.ofNat kk)), .val (.ref b27), .val (.int (own_all (own_W vv 2) 2 0)), .val (.int ((Int32.ofNat kk) + (1 : Int32))), .val (.int (1 : Int32))] []))
    refine Goes.go (fun _ kst => XS.aload X35.here hx rfl (hb hby at_125) rfl rfl  kst) ?_
    show Goes p e below s _ _ _ (T35.setTop (mkF m 127 #[.val (.int p0), .val (.int p1), .val (.int (2 : Int32)), .val (.int (3 : Int32)), .val (.int (Int32.ofNat kk)), .val (.ref b27), .val (.int (own_all (own_W vv 2) 2 0)), .val (.int ((Int32.ofNat kk) + (1 : Int32))), .val (.int (1 : Int32))] [(.ref b27)]))
    refine Goes.go (fun _ kst => XS.iconst X35.here hx rfl (hb hby at_127) kst) ?_
    show Goes p e below s _ _ _ (T35.setTop (mkF m 128 #[.val (.int p0), .val (.int p1), .val (.int (2 : Int32)), .val (.int (3 : Int32)), .val (.int (Int32.ofNat kk)), .val (.ref b27), .val (.int (own_all (own_W vv 2) 2 0)), .val (.int ((Int32.ofNat kk) + (1 : Int32))), .val (.int (1 : Int32))] [(.int (0 : Int32)), (.ref b27)]))
    refine Goes.go (fun _ kst => XS.iload X35.here hx rfl (hb hby at_128) rfl  kst) ?_
    show Goes p e below s _ _ _ (T35.setTop (mkF m 130 #[.val (.int p0), .val (.int p1), .val (.int (2 : Int32)), .val (.int (3 : Int32)), .val (.int (Int32.ofNat kk)), .val (.ref b27), .val (.int (own_all (own_W vv 2) 2 0)), .val (.int ((Int32.ofNat kk) + (1 : Int32))), .val (.int (1 : Int32))] [(.int ((Int32.ofNat kk) + (1 : Int32))), (.int (0 : Int32)), (.ref b27)]))
    obtain ⟨_, _, ⟨T40, L40, k40, n40⟩, -, X40, ⟨Lc40, hQ40, l40, y40, z40⟩, st40⟩ := Jvm.LawKit.callS X35 hx (y := (⟨"com/example/surety/surety/DecompositionAdvancePinLaw", "same", "([ZII)Z"⟩ : MethodName)) hown (mvT hZ (hw _ (List.mem_of_getElem? (i := 10) rfl))) (mvT hZ (hw _ (List.mem_of_getElem? (i := 11) rfl))) (mvT hZ (hw _ (List.mem_of_getElem? (i := 4) rfl))) (mvT hZ (hw _ (List.mem_of_getElem? (i := 12) rfl))) (by decide) (backOf (W := 0) (rm3 l Z a0 hw [] b27 (0 : Int32) ((Int32.ofNat kk) + (1 : Int32)) 2 (own_W vv 2) 0 h35 n0 Z35 A35 rfl (by decide)) hZ (hw _ (List.mem_of_getElem? (i := 12) rfl)) (hw _ (List.mem_of_getElem? (i := 4) rfl)) (by decide) (by decide)) (g := (mkF m 130 #[.val (.int p0), .val (.int p1), .val (.int (2 : Int32)), .val (.int (3 : Int32)), .val (.int (Int32.ofNat kk)), .val (.ref b27), .val (.int (own_all (own_W vv 2) 2 0)), .val (.int ((Int32.ofNat kk) + (1 : Int32))), .val (.int (1 : Int32))] [(.int ((Int32.ofNat kk) + (1 : Int32))), (.int (0 : Int32)), (.ref b27)])) rfl (by rw [hml]; rfl) (argsL := [(.ref b27), (.int (0 : Int32)), (.int ((Int32.ofNat kk) + (1 : Int32)))]) (rest := []) (lenOf pd_2 rfl) rfl (by show 2 * 0 + _ ≤ _; exact Nat.le_of_eq rfl) (hb hby at_130) (fun _ _ => ⟨rfl, e35, (by decide : 1 + 0 ≤ _), (by decide : 2 + 0 ≤ _)⟩)
    dsimp only [Pt.U, Pt.locs, Pt.cells, Pt.slots] at X40 l40 y40 z40 st40 hQ40
    subst l40 y40 z40
    obtain ⟨rfl, N40q, e40⟩ := hQ40
    have N40 := Fr.app N35 N40q
    refine Goes.go st40 ?_
    show Goes p e below s _ _ _ (T40.setTop (mkF m 133 #[.val (.int p0), .val (.int p1), .val (.int (2 : Int32)), .val (.int (3 : Int32)), .val (.int (Int32.ofNat kk)), .val (.ref b27), .val (.int (own_all (own_W vv 2) 2 0)), .val (.int ((Int32.ofNat kk) + (1 : Int32))), .val (.int (1 : Int32))] [(.int (f3 b27 (0 : Int32) ((Int32.ofNat kk) + (1 : Int32)) 2 (own_W vv 2) 0))]))
    have hc133_41 : ¬ ((f3 b27 (0 : Int32) ((Int32.ofNat kk) + (1 : Int32)) 2 (own_W vv 2) 0) = (0 : Int32)) := gg0
    refine Goes.go (fun _ kst => XS.ifNo X40.here hx rfl (hb hby at_133) rfl ((if0 _ _).trans (feq hc133_41).1) kst) ?_
    show Goes p e below s _ _ _ (T40.setTop (mkF m 136 #[.val (.int p0), .val (.int p1), .val (.int (2 : Int32)), .val (.int (3 : Int32)), .val (.int (Int32.ofNat kk)), .val (.ref b27), .val (.int (own_all (own_W vv 2) 2 0)), .val (.int ((Int32.ofNat kk) + (1 : Int32))), .val (.int (1 : Int32))] []))
    refine Goes.go (fun _ kst => XS.aload X40.here hx rfl (hb hby at_136) rfl rfl  kst) ?_
    show Goes p e below s _ _ _ (T40.setTop (mkF m 138 #[.val (.int p0), .val (.int p1), .val (.int (2 : Int32)), .val (.int (3 : Int32)), .val (.int (Int32.ofNat kk)), .val (.ref b27), .val (.int (own_all (own_W vv 2) 2 0)), .val (.int ((Int32.ofNat kk) + (1 : Int32))), .val (.int (1 : Int32))] [(.ref b27)]))
    refine Goes.go (fun _ kst => XS.iconst X40.here hx rfl (hb hby at_138) kst) ?_
    show Goes p e below s _ _ _ (T40.setTop (mkF m 139 #[.val (.int p0), .val (.int p1), .val (.int (2 : Int32)), .val (.int (3 : Int32)), .val (.int (Int32.ofNat kk)), .val (.ref b27), .val (.int (own_all (own_W vv 2) 2 0)), .val (.int ((Int32.ofNat kk) + (1 : Int32))), .val (.int (1 : Int32))] [(.int (1 : Int32)), (.ref b27)]))
    refine Goes.go (fun _ kst => XS.iload X40.here hx rfl (hb hby at_139) rfl  kst) ?_
    show Goes p e below s _ _ _ (T40.setTop (mkF m 141 #[.val (.int p0), .val (.int p1), .val (.int (2 : Int32)), .val (.int (3 : Int32)), .val (.int (Int32.ofNat kk)), .val (.ref b27), .val (.int (own_all (own_W vv 2) 2 0)), .val (.int ((Int32.ofNat kk) + (1 : Int32))), .val (.int (1 : Int32))] [(.int ((Int32.ofNat kk) + (1 : Int32))), (.int (1 : Int32)), (.ref b27)]))
    obtain ⟨_, _, ⟨T42, L42, k42, n42⟩, -, X42, ⟨Lc42, hQ42, l42, y42, z42⟩, st42⟩ := Jvm.LawKit.callS X40 hx (y := (⟨"com/example/surety/surety/DecompositionAdvancePinLaw", "same", "([ZII)Z"⟩ : MethodName)) hown (mvT hZ (hw _ (List.mem_of_getElem? (i := 10) rfl))) (mvT hZ (hw _ (List.mem_of_getElem? (i := 11) rfl))) (mvT hZ (hw _ (List.mem_of_getElem? (i := 4) rfl))) (mvT hZ (hw _ (List.mem_of_getElem? (i := 12) rfl))) (by decide) (backOf (W := 0) (rm3 l Z a0 hw [] b27 (1 : Int32) ((Int32.ofNat kk) + (1 : Int32)) 2 (own_W vv 2) 1 h35 n0 Z35 A35 rfl (by decide)) hZ (hw _ (List.mem_of_getElem? (i := 12) rfl)) (hw _ (List.mem_of_getElem? (i := 4) rfl)) (by decide) (by decide)) (g := (mkF m 141 #[.val (.int p0), .val (.int p1), .val (.int (2 : Int32)), .val (.int (3 : Int32)), .val (.int (Int32.ofNat kk)), .val (.ref b27), .val (.int (own_all (own_W vv 2) 2 0)), .val (.int ((Int32.ofNat kk) + (1 : Int32))), .val (.int (1 : Int32))] [(.int ((Int32.ofNat kk) + (1 : Int32))), (.int (1 : Int32)), (.ref b27)])) rfl (by rw [hml]; rfl) (argsL := [(.ref b27), (.int (1 : Int32)), (.int ((Int32.ofNat kk) + (1 : Int32)))]) (rest := []) (lenOf pd_2 rfl) rfl (by show 2 * 0 + _ ≤ _; exact Nat.le_of_eq rfl) (hb hby at_141) (fun _ _ => ⟨rfl, e40, (by decide : 1 + 0 ≤ _), (by decide : 2 + 0 ≤ _)⟩)
    dsimp only [Pt.U, Pt.locs, Pt.cells, Pt.slots] at X42 l42 y42 z42 st42 hQ42
    subst l42 y42 z42
    obtain ⟨rfl, N42q, e42⟩ := hQ42
    have N42 := Fr.app N40 N42q
    refine Goes.go st42 ?_
    show Goes p e below s _ _ _ (T42.setTop (mkF m 144 #[.val (.int p0), .val (.int p1), .val (.int (2 : Int32)), .val (.int (3 : Int32)), .val (.int (Int32.ofNat kk)), .val (.ref b27), .val (.int (own_all (own_W vv 2) 2 0)), .val (.int ((Int32.ofNat kk) + (1 : Int32))), .val (.int (1 : Int32))] [(.int (f3 b27 (1 : Int32) ((Int32.ofNat kk) + (1 : Int32)) 2 (own_W vv 2) 1))]))
    have hc144_43 : ¬ ((f3 b27 (1 : Int32) ((Int32.ofNat kk) + (1 : Int32)) 2 (own_W vv 2) 1) = (0 : Int32)) := gg1
    refine Goes.go (fun _ kst => XS.ifNo X42.here hx rfl (hb hby at_144) rfl ((if0 _ _).trans (feq hc144_43).1) kst) ?_
    show Goes p e below s _ _ _ (T42.setTop (mkF m 147 #[.val (.int p0), .val (.int p1), .val (.int (2 : Int32)), .val (.int (3 : Int32)), .val (.int (Int32.ofNat kk)), .val (.ref b27), .val (.int (own_all (own_W vv 2) 2 0)), .val (.int ((Int32.ofNat kk) + (1 : Int32))), .val (.int (1 : Int32))] []))
    refine Goes.go (fun _ kst => XS.aload X42.here hx rfl (hb hby at_147) rfl rfl  kst) ?_
    show Goes p e below s _ _ _ (T42.setTop (mkF m 149 #[.val (.int p0), .val (.int p1), .val (.int (2 : Int32)), .val (.int (3 : Int32)), .val (.int (Int32.ofNat kk)), .val (.ref b27), .val (.int (own_all (own_W vv 2) 2 0)), .val (.int ((Int32.ofNat kk) + (1 : Int32))), .val (.int (1 : Int32))] [(.ref b27)]))
    refine Goes.go (fun _ kst => XS.iconst X42.here hx rfl (hb hby at_149) kst) ?_
    show Goes p e below s _ _ _ (T42.setTop (mkF m 150 #[.val (.int p0), .val (.int p1), .val (.int (2 : Int32)), .val (.int (3 : Int32)), .val (.int (Int32.ofNat kk)), .val (.ref b27), .val (.int (own_all (own_W vv 2) 2 0)), .val (.int ((Int32.ofNat kk) + (1 : Int32))), .val (.int (1 : Int32))] [(.int (2 : Int32)), (.ref b27)]))
    refine Goes.go (fun _ kst => XS.iload X42.here hx rfl (hb hby at_150) rfl  kst) ?_
    show Goes p e below s _ _ _ (T42.setTop (mkF m 152 #[.val (.int p0), .val (.int p1), .val (.int (2 : Int32)), .val (.int (3 : Int32)), .val (.int (Int32.ofNat kk)), .val (.ref b27), .val (.int (own_all (own_W vv 2) 2 0)), .val (.int ((Int32.ofNat kk) + (1 : Int32))), .val (.int (1 : Int32))] [(.int ((Int32.ofNat kk) + (1 : Int32))), (.int (2 : Int32)), (.ref b27)]))
    obtain ⟨_, _, ⟨T44, L44, k44, n44⟩, -, X44, ⟨Lc44, hQ44, l44, y44, z44⟩, st44⟩ := Jvm.LawKit.callS X42 hx (y := (⟨"com/example/surety/surety/DecompositionAdvancePinLaw", "same", "([ZII)Z"⟩ : MethodName)) hown (mvT hZ (hw _ (List.mem_of_getElem? (i := 10) rfl))) (mvT hZ (hw _ (List.mem_of_getElem? (i := 11) rfl))) (mvT hZ (hw _ (List.mem_of_getElem? (i := 4) rfl))) (mvT hZ (hw _ (List.mem_of_getElem? (i := 12) rfl))) (by decide) (backOf (W := 0) (rm3 l Z a0 hw [] b27 (2 : Int32) ((Int32.ofNat kk) + (1 : Int32)) 2 (own_W vv 2) 2 h35 n0 Z35 A35 rfl (by decide)) hZ (hw _ (List.mem_of_getElem? (i := 12) rfl)) (hw _ (List.mem_of_getElem? (i := 4) rfl)) (by decide) (by decide)) (g := (mkF m 152 #[.val (.int p0), .val (.int p1), .val (.int (2 : Int32)), .val (.int (3 : Int32)), .val (.int (Int32.ofNat kk)), .val (.ref b27), .val (.int (own_all (own_W vv 2) 2 0)), .val (.int ((Int32.ofNat kk) + (1 : Int32))), .val (.int (1 : Int32))] [(.int ((Int32.ofNat kk) + (1 : Int32))), (.int (2 : Int32)), (.ref b27)])) rfl (by rw [hml]; rfl) (argsL := [(.ref b27), (.int (2 : Int32)), (.int ((Int32.ofNat kk) + (1 : Int32)))]) (rest := []) (lenOf pd_2 rfl) rfl (by show 2 * 0 + _ ≤ _; exact Nat.le_of_eq rfl) (hb hby at_152) (fun _ _ => ⟨rfl, e42, (by decide : 1 + 0 ≤ _), (by decide : 2 + 0 ≤ _)⟩)
    dsimp only [Pt.U, Pt.locs, Pt.cells, Pt.slots] at X44 l44 y44 z44 st44 hQ44
    subst l44 y44 z44
    obtain ⟨rfl, N44q, e44⟩ := hQ44
    have N44 := Fr.app N42 N44q
    refine Goes.go st44 ?_
    show Goes p e below s _ _ _ (T44.setTop (mkF m 155 #[.val (.int p0), .val (.int p1), .val (.int (2 : Int32)), .val (.int (3 : Int32)), .val (.int (Int32.ofNat kk)), .val (.ref b27), .val (.int (own_all (own_W vv 2) 2 0)), .val (.int ((Int32.ofNat kk) + (1 : Int32))), .val (.int (1 : Int32))] [(.int (f3 b27 (2 : Int32) ((Int32.ofNat kk) + (1 : Int32)) 2 (own_W vv 2) 2))]))
    have hc155_45 : ¬ ((f3 b27 (2 : Int32) ((Int32.ofNat kk) + (1 : Int32)) 2 (own_W vv 2) 2) = (0 : Int32)) := gg2
    refine Goes.go (fun _ kst => XS.ifNo X44.here hx rfl (hb hby at_155) rfl ((if0 _ _).trans (feq hc155_45).1) kst) ?_
    show Goes p e below s _ _ _ (T44.setTop (mkF m 158 #[.val (.int p0), .val (.int p1), .val (.int (2 : Int32)), .val (.int (3 : Int32)), .val (.int (Int32.ofNat kk)), .val (.ref b27), .val (.int (own_all (own_W vv 2) 2 0)), .val (.int ((Int32.ofNat kk) + (1 : Int32))), .val (.int (1 : Int32))] []))
    refine Goes.go (fun _ kst => XS.iconst X44.here hx rfl (hb hby at_158) kst) ?_
    show Goes p e below s _ _ _ (T44.setTop (mkF m 159 #[.val (.int p0), .val (.int p1), .val (.int (2 : Int32)), .val (.int (3 : Int32)), .val (.int (Int32.ofNat kk)), .val (.ref b27), .val (.int (own_all (own_W vv 2) 2 0)), .val (.int ((Int32.ofNat kk) + (1 : Int32))), .val (.int (1 : Int32))] [(.int (1 : Int32))]))
    refine Goes.go (fun _ kst => XS.goto X44.here hx rfl (pc0 := 159) (pc' := 163) rfl (hb hby at_159) (by decide) (by decide) kst) ?_
    show Goes p e below s _ _ _ (T44.setTop (mkF m 163 #[.val (.int p0), .val (.int p1), .val (.int (2 : Int32)), .val (.int (3 : Int32)), .val (.int (Int32.ofNat kk)), .val (.ref b27), .val (.int (own_all (own_W vv 2) 2 0)), .val (.int ((Int32.ofNat kk) + (1 : Int32))), .val (.int (1 : Int32))] [(.int (1 : Int32))]))
    refine Goes.go (fun _ kst => XS.istore X44.here hx rfl (hb hby at_163) rfl (l' := #[.val (.int p0), .val (.int p1), .val (.int (2 : Int32)), .val (.int (3 : Int32)), .val (.int (Int32.ofNat kk)), .val (.ref b27), .val (.int (own_all (own_W vv 2) 2 0)), .val (.int ((Int32.ofNat kk) + (1 : Int32))), .val (.int (1 : Int32))]) rfl kst) ?_
    show Goes p e below s _ _ _ (T44.setTop (mkF m 165 #[.val (.int p0), .val (.int p1), .val (.int (2 : Int32)), .val (.int (3 : Int32)), .val (.int (Int32.ofNat kk)), .val (.ref b27), .val (.int (own_all (own_W vv 2) 2 0)), .val (.int ((Int32.ofNat kk) + (1 : Int32))), .val (.int (1 : Int32))] []))
    refine Goes.go (fun _ kst => XS.iload X44.here hx rfl (hb hby at_165) rfl  kst) ?_
    show Goes p e below s _ _ _ (T44.setTop (mkF m 167 #[.val (.int p0), .val (.int p1), .val (.int (2 : Int32)), .val (.int (3 : Int32)), .val (.int (Int32.ofNat kk)), .val (.ref b27), .val (.int (own_all (own_W vv 2) 2 0)), .val (.int ((Int32.ofNat kk) + (1 : Int32))), .val (.int (1 : Int32))] [(.int (1 : Int32))]))
    have hc167_46 : ¬ ((1 : Int32) = (0 : Int32)) := (by decide)
    refine Goes.go (fun _ kst => XS.ifNo X44.here hx rfl (hb hby at_167) rfl ((if0 _ _).trans (feq hc167_46).1) kst) ?_
    show Goes p e below s _ _ _ (T44.setTop (mkF m 170 #[.val (.int p0), .val (.int p1), .val (.int (2 : Int32)), .val (.int (3 : Int32)), .val (.int (Int32.ofNat kk)), .val (.ref b27), .val (.int (own_all (own_W vv 2) 2 0)), .val (.int ((Int32.ofNat kk) + (1 : Int32))), .val (.int (1 : Int32))] []))
    refine Goes.go (fun _ kst => XS.aload X44.here hx rfl (hb hby at_170) rfl rfl  kst) ?_
    show Goes p e below s _ _ _ (T44.setTop (mkF m 172 #[.val (.int p0), .val (.int p1), .val (.int (2 : Int32)), .val (.int (3 : Int32)), .val (.int (Int32.ofNat kk)), .val (.ref b27), .val (.int (own_all (own_W vv 2) 2 0)), .val (.int ((Int32.ofNat kk) + (1 : Int32))), .val (.int (1 : Int32))] [(.ref b27)]))
    refine Goes.go (fun _ kst => XS.iconst X44.here hx rfl (hb hby at_172) kst) ?_
    show Goes p e below s _ _ _ (T44.setTop (mkF m 173 #[.val (.int p0), .val (.int p1), .val (.int (2 : Int32)), .val (.int (3 : Int32)), .val (.int (Int32.ofNat kk)), .val (.ref b27), .val (.int (own_all (own_W vv 2) 2 0)), .val (.int ((Int32.ofNat kk) + (1 : Int32))), .val (.int (1 : Int32))] [(.int (3 : Int32)), (.ref b27)]))
    refine Goes.go (fun _ kst => XS.iload X44.here hx rfl (hb hby at_173) rfl  kst) ?_
    show Goes p e below s _ _ _ (T44.setTop (mkF m 175 #[.val (.int p0), .val (.int p1), .val (.int (2 : Int32)), .val (.int (3 : Int32)), .val (.int (Int32.ofNat kk)), .val (.ref b27), .val (.int (own_all (own_W vv 2) 2 0)), .val (.int ((Int32.ofNat kk) + (1 : Int32))), .val (.int (1 : Int32))] [(.int ((Int32.ofNat kk) + (1 : Int32))), (.int (3 : Int32)), (.ref b27)]))
    obtain ⟨_, _, ⟨T47, L47, k47, n47⟩, -, X47, ⟨Lc47, hQ47, l47, y47, z47⟩, st47⟩ := Jvm.LawKit.callS X44 hx (y := (⟨"com/example/surety/surety/DecompositionAdvancePinLaw", "same", "([ZII)Z"⟩ : MethodName)) hown (mvT hZ (hw _ (List.mem_of_getElem? (i := 10) rfl))) (mvT hZ (hw _ (List.mem_of_getElem? (i := 11) rfl))) (mvT hZ (hw _ (List.mem_of_getElem? (i := 4) rfl))) (mvT hZ (hw _ (List.mem_of_getElem? (i := 12) rfl))) (by decide) (backOf (W := 0) (rm3 l Z a0 hw [] b27 (3 : Int32) ((Int32.ofNat kk) + (1 : Int32)) 2 (own_W vv 2) 3 h35 n0 Z35 A35 rfl (by decide)) hZ (hw _ (List.mem_of_getElem? (i := 12) rfl)) (hw _ (List.mem_of_getElem? (i := 4) rfl)) (by decide) (by decide)) (g := (mkF m 175 #[.val (.int p0), .val (.int p1), .val (.int (2 : Int32)), .val (.int (3 : Int32)), .val (.int (Int32.ofNat kk)), .val (.ref b27), .val (.int (own_all (own_W vv 2) 2 0)), .val (.int ((Int32.ofNat kk) + (1 : Int32))), .val (.int (1 : Int32))] [(.int ((Int32.ofNat kk) + (1 : Int32))), (.int (3 : Int32)), (.ref b27)])) rfl (by rw [hml]; rfl) (argsL := [(.ref b27), (.int (3 : Int32)), (.int ((Int32.ofNat kk) + (1 : Int32)))]) (rest := []) (lenOf pd_2 rfl) rfl (by show 2 * 0 + _ ≤ _; exact Nat.le_of_eq rfl) (hb hby at_175) (fun _ _ => ⟨rfl, e44, (by decide : 1 + 0 ≤ _), (by decide : 2 + 0 ≤ _)⟩)
    dsimp only [Pt.U, Pt.locs, Pt.cells, Pt.slots] at X47 l47 y47 z47 st47 hQ47
    subst l47 y47 z47
    obtain ⟨rfl, N47q, e47⟩ := hQ47
    have N47 := Fr.app N44 N47q
    refine Goes.go st47 ?_
    show Goes p e below s _ _ _ (T47.setTop (mkF m 178 #[.val (.int p0), .val (.int p1), .val (.int (2 : Int32)), .val (.int (3 : Int32)), .val (.int (Int32.ofNat kk)), .val (.ref b27), .val (.int (own_all (own_W vv 2) 2 0)), .val (.int ((Int32.ofNat kk) + (1 : Int32))), .val (.int (1 : Int32))] [(.int (f3 b27 (3 : Int32) ((Int32.ofNat kk) + (1 : Int32)) 2 (own_W vv 2) 3))]))
    have hc178_48 : ¬ ((f3 b27 (3 : Int32) ((Int32.ofNat kk) + (1 : Int32)) 2 (own_W vv 2) 3) = (0 : Int32)) := gg3
    refine Goes.go (fun _ kst => XS.ifNo X47.here hx rfl (hb hby at_178) rfl ((if0 _ _).trans (feq hc178_48).1) kst) ?_
    show Goes p e below s _ _ _ (T47.setTop (mkF m 181 #[.val (.int p0), .val (.int p1), .val (.int (2 : Int32)), .val (.int (3 : Int32)), .val (.int (Int32.ofNat kk)), .val (.ref b27), .val (.int (own_all (own_W vv 2) 2 0)), .val (.int ((Int32.ofNat kk) + (1 : Int32))), .val (.int (1 : Int32))] []))
    refine Goes.go (fun _ kst => XS.aload X47.here hx rfl (hb hby at_181) rfl rfl  kst) ?_
    show Goes p e below s _ _ _ (T47.setTop (mkF m 183 #[.val (.int p0), .val (.int p1), .val (.int (2 : Int32)), .val (.int (3 : Int32)), .val (.int (Int32.ofNat kk)), .val (.ref b27), .val (.int (own_all (own_W vv 2) 2 0)), .val (.int ((Int32.ofNat kk) + (1 : Int32))), .val (.int (1 : Int32))] [(.ref b27)]))
    refine Goes.go (fun _ kst => XS.iconst X47.here hx rfl (hb hby at_183) kst) ?_
    show Goes p e below s _ _ _ (T47.setTop (mkF m 184 #[.val (.int p0), .val (.int p1), .val (.int (2 : Int32)), .val (.int (3 : Int32)), .val (.int (Int32.ofNat kk)), .val (.ref b27), .val (.int (own_all (own_W vv 2) 2 0)), .val (.int ((Int32.ofNat kk) + (1 : Int32))), .val (.int (1 : Int32))] [(.int (4 : Int32)), (.ref b27)]))
    refine Goes.go (fun _ kst => XS.iload X47.here hx rfl (hb hby at_184) rfl  kst) ?_
    show Goes p e below s _ _ _ (T47.setTop (mkF m 186 #[.val (.int p0), .val (.int p1), .val (.int (2 : Int32)), .val (.int (3 : Int32)), .val (.int (Int32.ofNat kk)), .val (.ref b27), .val (.int (own_all (own_W vv 2) 2 0)), .val (.int ((Int32.ofNat kk) + (1 : Int32))), .val (.int (1 : Int32))] [(.int ((Int32.ofNat kk) + (1 : Int32))), (.int (4 : Int32)), (.ref b27)]))
    obtain ⟨_, _, ⟨T49, L49, k49, n49⟩, -, X49, ⟨Lc49, hQ49, l49, y49, z49⟩, st49⟩ := Jvm.LawKit.callS X47 hx (y := (⟨"com/example/surety/surety/DecompositionAdvancePinLaw", "same", "([ZII)Z"⟩ : MethodName)) hown (mvT hZ (hw _ (List.mem_of_getElem? (i := 10) rfl))) (mvT hZ (hw _ (List.mem_of_getElem? (i := 11) rfl))) (mvT hZ (hw _ (List.mem_of_getElem? (i := 4) rfl))) (mvT hZ (hw _ (List.mem_of_getElem? (i := 12) rfl))) (by decide) (backOf (W := 0) (rm3 l Z a0 hw [] b27 (4 : Int32) ((Int32.ofNat kk) + (1 : Int32)) 2 (own_W vv 2) 4 h35 n0 Z35 A35 rfl (by decide)) hZ (hw _ (List.mem_of_getElem? (i := 12) rfl)) (hw _ (List.mem_of_getElem? (i := 4) rfl)) (by decide) (by decide)) (g := (mkF m 186 #[.val (.int p0), .val (.int p1), .val (.int (2 : Int32)), .val (.int (3 : Int32)), .val (.int (Int32.ofNat kk)), .val (.ref b27), .val (.int (own_all (own_W vv 2) 2 0)), .val (.int ((Int32.ofNat kk) + (1 : Int32))), .val (.int (1 : Int32))] [(.int ((Int32.ofNat kk) + (1 : Int32))), (.int (4 : Int32)), (.ref b27)])) rfl (by rw [hml]; rfl) (argsL := [(.ref b27), (.int (4 : Int32)), (.int ((Int32.ofNat kk) + (1 : Int32)))]) (rest := []) (lenOf pd_2 rfl) rfl (by show 2 * 0 + _ ≤ _; exact Nat.le_of_eq rfl) (hb hby at_186) (fun _ _ => ⟨rfl, e47, (by decide : 1 + 0 ≤ _), (by decide : 2 + 0 ≤ _)⟩)
    dsimp only [Pt.U, Pt.locs, Pt.cells, Pt.slots] at X49 l49 y49 z49 st49 hQ49
    subst l49 y49 z49
    obtain ⟨rfl, N49q, e49⟩ := hQ49
    have N49 := Fr.app N47 N49q
    refine Goes.go st49 ?_
    show Goes p e below s _ _ _ (T49.setTop (mkF m 189 #[.val (.int p0), .val (.int p1), .val (.int (2 : Int32)), .val (.int (3 : Int32)), .val (.int (Int32.ofNat kk)), .val (.ref b27), .val (.int (own_all (own_W vv 2) 2 0)), .val (.int ((Int32.ofNat kk) + (1 : Int32))), .val (.int (1 : Int32))] [(.int (f3 b27 (4 : Int32) ((Int32.ofNat kk) + (1 : Int32)) 2 (own_W vv 2) 4))]))
    have hc189_50 : ¬ ((f3 b27 (4 : Int32) ((Int32.ofNat kk) + (1 : Int32)) 2 (own_W vv 2) 4) = (0 : Int32)) := gg4
    refine Goes.go (fun _ kst => XS.ifNo X49.here hx rfl (hb hby at_189) rfl ((if0 _ _).trans (feq hc189_50).1) kst) ?_
    show Goes p e below s _ _ _ (T49.setTop (mkF m 192 #[.val (.int p0), .val (.int p1), .val (.int (2 : Int32)), .val (.int (3 : Int32)), .val (.int (Int32.ofNat kk)), .val (.ref b27), .val (.int (own_all (own_W vv 2) 2 0)), .val (.int ((Int32.ofNat kk) + (1 : Int32))), .val (.int (1 : Int32))] []))
    refine Goes.go (fun _ kst => XS.aload X49.here hx rfl (hb hby at_192) rfl rfl  kst) ?_
    show Goes p e below s _ _ _ (T49.setTop (mkF m 194 #[.val (.int p0), .val (.int p1), .val (.int (2 : Int32)), .val (.int (3 : Int32)), .val (.int (Int32.ofNat kk)), .val (.ref b27), .val (.int (own_all (own_W vv 2) 2 0)), .val (.int ((Int32.ofNat kk) + (1 : Int32))), .val (.int (1 : Int32))] [(.ref b27)]))
    refine Goes.go (fun _ kst => XS.iconst X49.here hx rfl (hb hby at_194) kst) ?_
    show Goes p e below s _ _ _ (T49.setTop (mkF m 195 #[.val (.int p0), .val (.int p1), .val (.int (2 : Int32)), .val (.int (3 : Int32)), .val (.int (Int32.ofNat kk)), .val (.ref b27), .val (.int (own_all (own_W vv 2) 2 0)), .val (.int ((Int32.ofNat kk) + (1 : Int32))), .val (.int (1 : Int32))] [(.int (5 : Int32)), (.ref b27)]))
    refine Goes.go (fun _ kst => XS.iload X49.here hx rfl (hb hby at_195) rfl  kst) ?_
    show Goes p e below s _ _ _ (T49.setTop (mkF m 197 #[.val (.int p0), .val (.int p1), .val (.int (2 : Int32)), .val (.int (3 : Int32)), .val (.int (Int32.ofNat kk)), .val (.ref b27), .val (.int (own_all (own_W vv 2) 2 0)), .val (.int ((Int32.ofNat kk) + (1 : Int32))), .val (.int (1 : Int32))] [(.int ((Int32.ofNat kk) + (1 : Int32))), (.int (5 : Int32)), (.ref b27)]))
    obtain ⟨_, _, ⟨T51, L51, k51, n51⟩, -, X51, ⟨Lc51, hQ51, l51, y51, z51⟩, st51⟩ := Jvm.LawKit.callS X49 hx (y := (⟨"com/example/surety/surety/DecompositionAdvancePinLaw", "same", "([ZII)Z"⟩ : MethodName)) hown (mvT hZ (hw _ (List.mem_of_getElem? (i := 10) rfl))) (mvT hZ (hw _ (List.mem_of_getElem? (i := 11) rfl))) (mvT hZ (hw _ (List.mem_of_getElem? (i := 4) rfl))) (mvT hZ (hw _ (List.mem_of_getElem? (i := 12) rfl))) (by decide) (backOf (W := 0) (rm3 l Z a0 hw [] b27 (5 : Int32) ((Int32.ofNat kk) + (1 : Int32)) 2 (own_W vv 2) 5 h35 n0 Z35 A35 rfl (by decide)) hZ (hw _ (List.mem_of_getElem? (i := 12) rfl)) (hw _ (List.mem_of_getElem? (i := 4) rfl)) (by decide) (by decide)) (g := (mkF m 197 #[.val (.int p0), .val (.int p1), .val (.int (2 : Int32)), .val (.int (3 : Int32)), .val (.int (Int32.ofNat kk)), .val (.ref b27), .val (.int (own_all (own_W vv 2) 2 0)), .val (.int ((Int32.ofNat kk) + (1 : Int32))), .val (.int (1 : Int32))] [(.int ((Int32.ofNat kk) + (1 : Int32))), (.int (5 : Int32)), (.ref b27)])) rfl (by rw [hml]; rfl) (argsL := [(.ref b27), (.int (5 : Int32)), (.int ((Int32.ofNat kk) + (1 : Int32)))]) (rest := []) (lenOf pd_2 rfl) rfl (by show 2 * 0 + _ ≤ _; exact Nat.le_of_eq rfl) (hb hby at_197) (fun _ _ => ⟨rfl, e49, (by decide : 1 + 0 ≤ _), (by decide : 2 + 0 ≤ _)⟩)
    dsimp only [Pt.U, Pt.locs, Pt.cells, Pt.slots] at X51 l51 y51 z51 st51 hQ51
    subst l51 y51 z51
    obtain ⟨rfl, N51q, e51⟩ := hQ51
    have N51 := Fr.app N49 N51q
    refine Goes.go st51 ?_
    show Goes p e below s _ _ _ (T51.setTop (mkF m 200 #[.val (.int p0), .val (.int p1), .val (.int (2 : Int32)), .val (.int (3 : Int32)), .val (.int (Int32.ofNat kk)), .val (.ref b27), .val (.int (own_all (own_W vv 2) 2 0)), .val (.int ((Int32.ofNat kk) + (1 : Int32))), .val (.int (1 : Int32))] [(.int (f3 b27 (5 : Int32) ((Int32.ofNat kk) + (1 : Int32)) 2 (own_W vv 2) 5))]))
    have hc200_52 : ¬ ((f3 b27 (5 : Int32) ((Int32.ofNat kk) + (1 : Int32)) 2 (own_W vv 2) 5) = (0 : Int32)) := gg5
    refine Goes.go (fun _ kst => XS.ifNo X51.here hx rfl (hb hby at_200) rfl ((if0 _ _).trans (feq hc200_52).1) kst) ?_
    show Goes p e below s _ _ _ (T51.setTop (mkF m 203 #[.val (.int p0), .val (.int p1), .val (.int (2 : Int32)), .val (.int (3 : Int32)), .val (.int (Int32.ofNat kk)), .val (.ref b27), .val (.int (own_all (own_W vv 2) 2 0)), .val (.int ((Int32.ofNat kk) + (1 : Int32))), .val (.int (1 : Int32))] []))
    refine Goes.go (fun _ kst => XS.iconst X51.here hx rfl (hb hby at_203) kst) ?_
    show Goes p e below s _ _ _ (T51.setTop (mkF m 204 #[.val (.int p0), .val (.int p1), .val (.int (2 : Int32)), .val (.int (3 : Int32)), .val (.int (Int32.ofNat kk)), .val (.ref b27), .val (.int (own_all (own_W vv 2) 2 0)), .val (.int ((Int32.ofNat kk) + (1 : Int32))), .val (.int (1 : Int32))] [(.int (1 : Int32))]))
    refine Goes.go (fun _ kst => XS.goto X51.here hx rfl (pc0 := 204) (pc' := 208) rfl (hb hby at_204) (by decide) (by decide) kst) ?_
    show Goes p e below s _ _ _ (T51.setTop (mkF m 208 #[.val (.int p0), .val (.int p1), .val (.int (2 : Int32)), .val (.int (3 : Int32)), .val (.int (Int32.ofNat kk)), .val (.ref b27), .val (.int (own_all (own_W vv 2) 2 0)), .val (.int ((Int32.ofNat kk) + (1 : Int32))), .val (.int (1 : Int32))] [(.int (1 : Int32))]))
    refine Goes.go (fun _ kst => XS.istore X51.here hx rfl (hb hby at_208) rfl (l' := #[.val (.int p0), .val (.int p1), .val (.int (2 : Int32)), .val (.int (3 : Int32)), .val (.int (Int32.ofNat kk)), .val (.ref b27), .val (.int (own_all (own_W vv 2) 2 0)), .val (.int ((Int32.ofNat kk) + (1 : Int32))), .val (.int (1 : Int32))]) rfl kst) ?_
    show Goes p e below s _ _ _ (T51.setTop (mkF m 210 #[.val (.int p0), .val (.int p1), .val (.int (2 : Int32)), .val (.int (3 : Int32)), .val (.int (Int32.ofNat kk)), .val (.ref b27), .val (.int (own_all (own_W vv 2) 2 0)), .val (.int ((Int32.ofNat kk) + (1 : Int32))), .val (.int (1 : Int32))] []))
    refine Goes.go (fun _ kst => XS.iload X51.here hx rfl (hb hby at_210) rfl  kst) ?_
    show Goes p e below s _ _ _ (T51.setTop (mkF m 212 #[.val (.int p0), .val (.int p1), .val (.int (2 : Int32)), .val (.int (3 : Int32)), .val (.int (Int32.ofNat kk)), .val (.ref b27), .val (.int (own_all (own_W vv 2) 2 0)), .val (.int ((Int32.ofNat kk) + (1 : Int32))), .val (.int (1 : Int32))] [(.int (1 : Int32))]))
    refine Goes.retN .boolean X51 hx hlk Bd.returns (by simp) (hb hby at_212) ?_ (by decide) (by decide)
    exact ⟨rfl, N51⟩
  · rw [show ((1 : Int32) + ((p0 &&& (2147483647 : Int32)) % (6 : Int32))) = (3 : Int32) from by rw [show ((p0 &&& (2147483647 : Int32)) % (6 : Int32)) = Int32.ofNat 2 from en]; rfl]
    show Goes p e below s _ _ _ (s₁.setTop (mkF m 10 #[.val (.int p0), .val (.int p1), .val (.int (3 : Int32)), .unset, .unset, .unset, .unset, .unset, .unset] []))
    refine Goes.go (fun _ kst => XS.iconst X0.here hx rfl (hb hby at_10) kst) ?_
    show Goes p e below s _ _ _ (s₁.setTop (mkF m 11 #[.val (.int p0), .val (.int p1), .val (.int (3 : Int32)), .unset, .unset, .unset, .unset, .unset, .unset] [(.int (1 : Int32))]))
    refine Goes.go (fun _ kst => XS.iloadN X0.here hx rfl (hb hby at_11) rfl  kst) ?_
    show Goes p e below s _ _ _ (s₁.setTop (mkF m 12 #[.val (.int p0), .val (.int p1), .val (.int (3 : Int32)), .unset, .unset, .unset, .unset, .unset, .unset] [(.int (3 : Int32)), (.int (1 : Int32))]))
    refine Goes.go (fun _ kst => XS.ishl X0.here hx rfl (hb hby at_12) rfl kst) ?_
    show Goes p e below s _ _ _ (s₁.setTop (mkF m 13 #[.val (.int p0), .val (.int p1), .val (.int (3 : Int32)), .unset, .unset, .unset, .unset, .unset, .unset] [(.int ((1 : Int32) <<< ((3 : Int32) &&& 31)))]))
    refine Goes.go (fun _ kst => XS.iconst X0.here hx rfl (hb hby at_13) kst) ?_
    show Goes p e below s _ _ _ (s₁.setTop (mkF m 14 #[.val (.int p0), .val (.int p1), .val (.int (3 : Int32)), .unset, .unset, .unset, .unset, .unset, .unset] [(.int (1 : Int32)), (.int ((1 : Int32) <<< ((3 : Int32) &&& 31)))]))
    refine Goes.go (fun _ kst => XS.isub X0.here hx rfl (hb hby at_14) rfl kst) ?_
    rw [show (((1 : Int32) <<< ((3 : Int32) &&& 31)) - (1 : Int32)) = (7 : Int32) from by decide]
    show Goes p e below s _ _ _ (s₁.setTop (mkF m 15 #[.val (.int p0), .val (.int p1), .val (.int (3 : Int32)), .unset, .unset, .unset, .unset, .unset, .unset] [(.int (7 : Int32))]))
    refine Goes.go (fun _ kst => XS.istoreN X0.here hx rfl (hb hby at_15) rfl (l' := #[.val (.int p0), .val (.int p1), .val (.int (3 : Int32)), .val (.int (7 : Int32)), .unset, .unset, .unset, .unset, .unset]) rfl kst) ?_
    show Goes p e below s _ _ _ (s₁.setTop (mkF m 16 #[.val (.int p0), .val (.int p1), .val (.int (3 : Int32)), .val (.int (7 : Int32)), .unset, .unset, .unset, .unset, .unset] []))
    refine Goes.go (fun _ kst => XS.iloadN X0.here hx rfl (hb hby at_16) rfl  kst) ?_
    show Goes p e below s _ _ _ (s₁.setTop (mkF m 17 #[.val (.int p0), .val (.int p1), .val (.int (3 : Int32)), .val (.int (7 : Int32)), .unset, .unset, .unset, .unset, .unset] [(.int p1)]))
    refine Goes.go (fun _ kst => X0.ldcInt hx hown (mvT hZ (hw _ (List.mem_of_getElem? (i := 0) rfl))) (g := (mkF m 17 #[.val (.int p0), .val (.int p1), .val (.int (3 : Int32)), .val (.int (7 : Int32)), .unset, .unset, .unset, .unset, .unset] [(.int p1)])) rfl (hb hby at_17) _ kst) ?_
    show Goes p e below s _ _ _ (s₁.setTop (mkF m 19 #[.val (.int p0), .val (.int p1), .val (.int (3 : Int32)), .val (.int (7 : Int32)), .unset, .unset, .unset, .unset, .unset] [(.int (2147483647 : Int32)), (.int p1)]))
    refine Goes.go (fun _ kst => XS.iand X0.here hx rfl (hb hby at_19) rfl kst) ?_
    show Goes p e below s _ _ _ (s₁.setTop (mkF m 20 #[.val (.int p0), .val (.int p1), .val (.int (3 : Int32)), .val (.int (7 : Int32)), .unset, .unset, .unset, .unset, .unset] [(.int (p1 &&& (2147483647 : Int32)))]))
    refine Goes.go (fun _ kst => XS.iloadN X0.here hx rfl (hb hby at_20) rfl  kst) ?_
    show Goes p e below s _ _ _ (s₁.setTop (mkF m 21 #[.val (.int p0), .val (.int p1), .val (.int (3 : Int32)), .val (.int (7 : Int32)), .unset, .unset, .unset, .unset, .unset] [(.int (7 : Int32)), (.int (p1 &&& (2147483647 : Int32)))]))
    refine Goes.go (fun _ kst => own_irem X0.here hx rfl (hb hby at_21) rfl (by decide) kst) ?_
    obtain ⟨kk, hkk, ekk⟩ := own_modN p1 7 (by decide) (by decide)
    have hT := own_t3 ⟨kk, hkk⟩
    dsimp only at hT
    obtain ⟨hfz, hall, gg0, gg1, gg2, gg3, gg4, gg5⟩ := hT
    rw [show ((p1 &&& (2147483647 : Int32)) % (7 : Int32)) = Int32.ofNat kk from ekk]
    show Goes p e below s _ _ _ (s₁.setTop (mkF m 22 #[.val (.int p0), .val (.int p1), .val (.int (3 : Int32)), .val (.int (7 : Int32)), .unset, .unset, .unset, .unset, .unset] [(.int (Int32.ofNat kk))]))
    refine Goes.go (fun _ kst => XS.istore X0.here hx rfl (hb hby at_22) rfl (l' := #[.val (.int p0), .val (.int p1), .val (.int (3 : Int32)), .val (.int (7 : Int32)), .val (.int (Int32.ofNat kk)), .unset, .unset, .unset, .unset]) rfl kst) ?_
    show Goes p e below s _ _ _ (s₁.setTop (mkF m 24 #[.val (.int p0), .val (.int p1), .val (.int (3 : Int32)), .val (.int (7 : Int32)), .val (.int (Int32.ofNat kk)), .unset, .unset, .unset, .unset] []))
    refine Goes.go (fun _ kst => XS.iloadN X0.here hx rfl (hb hby at_24) rfl  kst) ?_
    show Goes p e below s _ _ _ (s₁.setTop (mkF m 25 #[.val (.int p0), .val (.int p1), .val (.int (3 : Int32)), .val (.int (7 : Int32)), .val (.int (Int32.ofNat kk)), .unset, .unset, .unset, .unset] [(.int (3 : Int32))]))
    obtain ⟨T53, h53, X53, e53, E53, A53, EA53, st53⟩ := own_newA X0 hx hZ (hw _ (List.mem_of_getElem? (i := 1) rfl)) e0 (g := (mkF m 25 #[.val (.int p0), .val (.int p1), .val (.int (3 : Int32)), .val (.int (7 : Int32)), .val (.int (Int32.ofNat kk)), .unset, .unset, .unset, .unset] [(.int (3 : Int32))])) rfl (hb hby at_25) rfl (n := 3) rfl (cap := 3) (Nat.le_refl _) (by decide) (by decide) (by decide) (by decide) (by decide) (by decide : _ = "[Z")
    obtain ⟨b53, g53⟩ : ∃ z, z = h0.size := ⟨_, rfl⟩
    rw [← g53] at A53 EA53 st53
    have gb53 : n0 ≤ b53 := Nat.le_trans Z0 (Nat.le_of_eq g53.symm)
    have sb53 : h0.size ≤ b53 := Nat.le_trans K0.1 (Nat.le_of_eq g53.symm)
    have Z53 := Nat.le_trans Z0 E53.1
    have K53 := Keep.ext K0 E53
    refine Goes.go st53 ?_
    show Goes p e below s _ _ _ (T53.setTop (mkF m 27 #[.val (.int p0), .val (.int p1), .val (.int (3 : Int32)), .val (.int (7 : Int32)), .val (.int (Int32.ofNat kk)), .unset, .unset, .unset, .unset] [(.ref b53)]))
    refine Goes.go (fun _ kst => XS.astore X53.here hx rfl (hb hby at_27) rfl rfl (l' := #[.val (.int p0), .val (.int p1), .val (.int (3 : Int32)), .val (.int (7 : Int32)), .val (.int (Int32.ofNat kk)), .val (.ref b53), .unset, .unset, .unset]) rfl kst) ?_
    show Goes p e below s _ _ _ (T53.setTop (mkF m 29 #[.val (.int p0), .val (.int p1), .val (.int (3 : Int32)), .val (.int (7 : Int32)), .val (.int (Int32.ofNat kk)), .val (.ref b53), .unset, .unset, .unset] []))
    refine Goes.go (fun _ kst => XS.aload X53.here hx rfl (hb hby at_29) rfl rfl  kst) ?_
    show Goes p e below s _ _ _ (T53.setTop (mkF m 31 #[.val (.int p0), .val (.int p1), .val (.int (3 : Int32)), .val (.int (7 : Int32)), .val (.int (Int32.ofNat kk)), .val (.ref b53), .unset, .unset, .unset] [(.ref b53)]))
    refine Goes.go (fun _ kst => XS.iconst X53.here hx rfl (hb hby at_31) kst) ?_
    show Goes p e below s _ _ _ (T53.setTop (mkF m 32 #[.val (.int p0), .val (.int p1), .val (.int (3 : Int32)), .val (.int (7 : Int32)), .val (.int (Int32.ofNat kk)), .val (.ref b53), .unset, .unset, .unset] [(.int (0 : Int32)), (.ref b53)]))
    refine Goes.go (fun _ kst => XS.iload X53.here hx rfl (hb hby at_32) rfl  kst) ?_
    show Goes p e below s _ _ _ (T53.setTop (mkF m 34 #[.val (.int p0), .val (.int p1), .val (.int (3 : Int32)), .val (.int (7 : Int32)), .val (.int (Int32.ofNat kk)), .val (.ref b53), .unset, .unset, .unset] [(.int (Int32.ofNat kk)), (.int (0 : Int32)), (.ref b53)]))
    obtain ⟨_, _, ⟨T54, L54, k54, n54⟩, -, X54, ⟨Lc54, hQ54, l54, y54, z54⟩, st54⟩ := Jvm.LawKit.callS X53 hx (y := (⟨"com/example/surety/surety/DecompositionAdvancePinLaw", "set", "([ZII)V"⟩ : MethodName)) hown (mvT hZ (hw _ (List.mem_of_getElem? (i := 2) rfl))) (mvT hZ (hw _ (List.mem_of_getElem? (i := 3) rfl))) (mvT hZ (hw _ (List.mem_of_getElem? (i := 4) rfl))) (mvT hZ (hw _ (List.mem_of_getElem? (i := 5) rfl))) (by decide) (backOf (W := 0) (rm1a l Z a0 hw [] b53 (0 : Int32) (Int32.ofNat kk) 3 (fun _ => 0) 0 h53 n0 Z53 A53 gb53 rfl (by decide)) hZ (hw _ (List.mem_of_getElem? (i := 5) rfl)) (hw _ (List.mem_of_getElem? (i := 4) rfl)) (by decide) (by decide)) (g := (mkF m 34 #[.val (.int p0), .val (.int p1), .val (.int (3 : Int32)), .val (.int (7 : Int32)), .val (.int (Int32.ofNat kk)), .val (.ref b53), .unset, .unset, .unset] [(.int (Int32.ofNat kk)), (.int (0 : Int32)), (.ref b53)])) rfl (by rw [hml]; rfl) (argsL := [(.ref b53), (.int (0 : Int32)), (.int (Int32.ofNat kk))]) (rest := []) (lenOf pd_0 rfl) rfl (by show 2 * 0 + _ ≤ _; exact Nat.le_of_eq rfl) (hb hby at_34) (fun _ _ => ⟨rfl, e53, (by decide : 1 + 0 ≤ _), (by decide : 3 + 0 ≤ _)⟩)
    dsimp only [Pt.U, Pt.locs, Pt.cells, Pt.slots] at X54 l54 y54 z54 st54 hQ54
    subst l54 y54 z54
    obtain ⟨h54, e54⟩ : ∃ z, T54.heap = z := ⟨_, rfl⟩
    rw [e54] at hQ54
    obtain ⟨rfl, N54q, Kq54, G54_0⟩ := hQ54
    have N54 := Fr.app N0 N54q
    have K54 := Keep.trans K53 Kq54 (allS (Or.inr sb53) all0)
    have Z54 := Nat.le_trans Z53 Kq54.1
    refine Goes.go st54 ?_
    show Goes p e below s _ _ _ (T54.setTop (mkF m 37 #[.val (.int p0), .val (.int p1), .val (.int (3 : Int32)), .val (.int (7 : Int32)), .val (.int (Int32.ofNat kk)), .val (.ref b53), .unset, .unset, .unset] []))
    refine Goes.go (fun _ kst => XS.aload X54.here hx rfl (hb hby at_37) rfl rfl  kst) ?_
    show Goes p e below s _ _ _ (T54.setTop (mkF m 39 #[.val (.int p0), .val (.int p1), .val (.int (3 : Int32)), .val (.int (7 : Int32)), .val (.int (Int32.ofNat kk)), .val (.ref b53), .unset, .unset, .unset] [(.ref b53)]))
    refine Goes.go (fun _ kst => XS.iconst X54.here hx rfl (hb hby at_39) kst) ?_
    show Goes p e below s _ _ _ (T54.setTop (mkF m 40 #[.val (.int p0), .val (.int p1), .val (.int (3 : Int32)), .val (.int (7 : Int32)), .val (.int (Int32.ofNat kk)), .val (.ref b53), .unset, .unset, .unset] [(.int (1 : Int32)), (.ref b53)]))
    refine Goes.go (fun _ kst => XS.iload X54.here hx rfl (hb hby at_40) rfl  kst) ?_
    show Goes p e below s _ _ _ (T54.setTop (mkF m 42 #[.val (.int p0), .val (.int p1), .val (.int (3 : Int32)), .val (.int (7 : Int32)), .val (.int (Int32.ofNat kk)), .val (.ref b53), .unset, .unset, .unset] [(.int (Int32.ofNat kk)), (.int (1 : Int32)), (.ref b53)]))
    obtain ⟨_, _, ⟨T55, L55, k55, n55⟩, -, X55, ⟨Lc55, hQ55, l55, y55, z55⟩, st55⟩ := Jvm.LawKit.callS X54 hx (y := (⟨"com/example/surety/surety/DecompositionAdvancePinLaw", "set", "([ZII)V"⟩ : MethodName)) hown (mvT hZ (hw _ (List.mem_of_getElem? (i := 2) rfl))) (mvT hZ (hw _ (List.mem_of_getElem? (i := 3) rfl))) (mvT hZ (hw _ (List.mem_of_getElem? (i := 4) rfl))) (mvT hZ (hw _ (List.mem_of_getElem? (i := 5) rfl))) (by decide) (backOf (W := 0) (rm1a l Z a0 hw [] b53 (1 : Int32) (Int32.ofNat kk) 3 (own_upd (fun _ => 0) 0 (nar .boolean (if (((Int32.ofNat kk) >>> ((0 : Int32) &&& 31)) &&& (1 : Int32)) = (0 : Int32) then (0 : Int32) else (1 : Int32)))) 1 h54 n0 Z54 G54_0 gb53 rfl (by decide)) hZ (hw _ (List.mem_of_getElem? (i := 5) rfl)) (hw _ (List.mem_of_getElem? (i := 4) rfl)) (by decide) (by decide)) (g := (mkF m 42 #[.val (.int p0), .val (.int p1), .val (.int (3 : Int32)), .val (.int (7 : Int32)), .val (.int (Int32.ofNat kk)), .val (.ref b53), .unset, .unset, .unset] [(.int (Int32.ofNat kk)), (.int (1 : Int32)), (.ref b53)])) rfl (by rw [hml]; rfl) (argsL := [(.ref b53), (.int (1 : Int32)), (.int (Int32.ofNat kk))]) (rest := []) (lenOf pd_0 rfl) rfl (by show 2 * 0 + _ ≤ _; exact Nat.le_of_eq rfl) (hb hby at_42) (fun _ _ => ⟨rfl, e54, (by decide : 1 + 0 ≤ _), (by decide : 3 + 0 ≤ _)⟩)
    dsimp only [Pt.U, Pt.locs, Pt.cells, Pt.slots] at X55 l55 y55 z55 st55 hQ55
    subst l55 y55 z55
    obtain ⟨h55, e55⟩ : ∃ z, T55.heap = z := ⟨_, rfl⟩
    rw [e55] at hQ55
    obtain ⟨rfl, N55q, Kq55, G55_0⟩ := hQ55
    have N55 := Fr.app N54 N55q
    have K55 := Keep.trans K54 Kq55 (allS (Or.inr sb53) all0)
    have Z55 := Nat.le_trans Z54 Kq55.1
    refine Goes.go st55 ?_
    show Goes p e below s _ _ _ (T55.setTop (mkF m 45 #[.val (.int p0), .val (.int p1), .val (.int (3 : Int32)), .val (.int (7 : Int32)), .val (.int (Int32.ofNat kk)), .val (.ref b53), .unset, .unset, .unset] []))
    refine Goes.go (fun _ kst => XS.aload X55.here hx rfl (hb hby at_45) rfl rfl  kst) ?_
    show Goes p e below s _ _ _ (T55.setTop (mkF m 47 #[.val (.int p0), .val (.int p1), .val (.int (3 : Int32)), .val (.int (7 : Int32)), .val (.int (Int32.ofNat kk)), .val (.ref b53), .unset, .unset, .unset] [(.ref b53)]))
    refine Goes.go (fun _ kst => XS.iconst X55.here hx rfl (hb hby at_47) kst) ?_
    show Goes p e below s _ _ _ (T55.setTop (mkF m 48 #[.val (.int p0), .val (.int p1), .val (.int (3 : Int32)), .val (.int (7 : Int32)), .val (.int (Int32.ofNat kk)), .val (.ref b53), .unset, .unset, .unset] [(.int (2 : Int32)), (.ref b53)]))
    refine Goes.go (fun _ kst => XS.iload X55.here hx rfl (hb hby at_48) rfl  kst) ?_
    show Goes p e below s _ _ _ (T55.setTop (mkF m 50 #[.val (.int p0), .val (.int p1), .val (.int (3 : Int32)), .val (.int (7 : Int32)), .val (.int (Int32.ofNat kk)), .val (.ref b53), .unset, .unset, .unset] [(.int (Int32.ofNat kk)), (.int (2 : Int32)), (.ref b53)]))
    obtain ⟨_, _, ⟨T56, L56, k56, n56⟩, -, X56, ⟨Lc56, hQ56, l56, y56, z56⟩, st56⟩ := Jvm.LawKit.callS X55 hx (y := (⟨"com/example/surety/surety/DecompositionAdvancePinLaw", "set", "([ZII)V"⟩ : MethodName)) hown (mvT hZ (hw _ (List.mem_of_getElem? (i := 2) rfl))) (mvT hZ (hw _ (List.mem_of_getElem? (i := 3) rfl))) (mvT hZ (hw _ (List.mem_of_getElem? (i := 4) rfl))) (mvT hZ (hw _ (List.mem_of_getElem? (i := 5) rfl))) (by decide) (backOf (W := 0) (rm1a l Z a0 hw [] b53 (2 : Int32) (Int32.ofNat kk) 3 (own_upd (own_upd (fun _ => 0) 0 (nar .boolean (if (((Int32.ofNat kk) >>> ((0 : Int32) &&& 31)) &&& (1 : Int32)) = (0 : Int32) then (0 : Int32) else (1 : Int32)))) 1 (nar .boolean (if (((Int32.ofNat kk) >>> ((1 : Int32) &&& 31)) &&& (1 : Int32)) = (0 : Int32) then (0 : Int32) else (1 : Int32)))) 2 h55 n0 Z55 G55_0 gb53 rfl (by decide)) hZ (hw _ (List.mem_of_getElem? (i := 5) rfl)) (hw _ (List.mem_of_getElem? (i := 4) rfl)) (by decide) (by decide)) (g := (mkF m 50 #[.val (.int p0), .val (.int p1), .val (.int (3 : Int32)), .val (.int (7 : Int32)), .val (.int (Int32.ofNat kk)), .val (.ref b53), .unset, .unset, .unset] [(.int (Int32.ofNat kk)), (.int (2 : Int32)), (.ref b53)])) rfl (by rw [hml]; rfl) (argsL := [(.ref b53), (.int (2 : Int32)), (.int (Int32.ofNat kk))]) (rest := []) (lenOf pd_0 rfl) rfl (by show 2 * 0 + _ ≤ _; exact Nat.le_of_eq rfl) (hb hby at_50) (fun _ _ => ⟨rfl, e55, (by decide : 1 + 0 ≤ _), (by decide : 3 + 0 ≤ _)⟩)
    dsimp only [Pt.U, Pt.locs, Pt.cells, Pt.slots] at X56 l56 y56 z56 st56 hQ56
    subst l56 y56 z56
    obtain ⟨h56, e56⟩ : ∃ z, T56.heap = z := ⟨_, rfl⟩
    rw [e56] at hQ56
    obtain ⟨rfl, N56q, Kq56, G56_0⟩ := hQ56
    have N56 := Fr.app N55 N56q
    have K56 := Keep.trans K55 Kq56 (allS (Or.inr sb53) all0)
    have Z56 := Nat.le_trans Z55 Kq56.1
    refine Goes.go st56 ?_
    show Goes p e below s _ _ _ (T56.setTop (mkF m 53 #[.val (.int p0), .val (.int p1), .val (.int (3 : Int32)), .val (.int (7 : Int32)), .val (.int (Int32.ofNat kk)), .val (.ref b53), .unset, .unset, .unset] []))
    refine Goes.go (fun _ kst => XS.aload X56.here hx rfl (hb hby at_53) rfl rfl  kst) ?_
    show Goes p e below s _ _ _ (T56.setTop (mkF m 55 #[.val (.int p0), .val (.int p1), .val (.int (3 : Int32)), .val (.int (7 : Int32)), .val (.int (Int32.ofNat kk)), .val (.ref b53), .unset, .unset, .unset] [(.ref b53)]))
    refine Goes.go (fun _ kst => XS.iconst X56.here hx rfl (hb hby at_55) kst) ?_
    show Goes p e below s _ _ _ (T56.setTop (mkF m 56 #[.val (.int p0), .val (.int p1), .val (.int (3 : Int32)), .val (.int (7 : Int32)), .val (.int (Int32.ofNat kk)), .val (.ref b53), .unset, .unset, .unset] [(.int (3 : Int32)), (.ref b53)]))
    refine Goes.go (fun _ kst => XS.iload X56.here hx rfl (hb hby at_56) rfl  kst) ?_
    show Goes p e below s _ _ _ (T56.setTop (mkF m 58 #[.val (.int p0), .val (.int p1), .val (.int (3 : Int32)), .val (.int (7 : Int32)), .val (.int (Int32.ofNat kk)), .val (.ref b53), .unset, .unset, .unset] [(.int (Int32.ofNat kk)), (.int (3 : Int32)), (.ref b53)]))
    obtain ⟨_, _, ⟨T57, L57, k57, n57⟩, -, X57, ⟨Lc57, hQ57, l57, y57, z57⟩, st57⟩ := Jvm.LawKit.callS X56 hx (y := (⟨"com/example/surety/surety/DecompositionAdvancePinLaw", "set", "([ZII)V"⟩ : MethodName)) hown (mvT hZ (hw _ (List.mem_of_getElem? (i := 2) rfl))) (mvT hZ (hw _ (List.mem_of_getElem? (i := 3) rfl))) (mvT hZ (hw _ (List.mem_of_getElem? (i := 4) rfl))) (mvT hZ (hw _ (List.mem_of_getElem? (i := 5) rfl))) (by decide) (backOf (W := 0) (rm1b l Z a0 hw [] b53 (3 : Int32) (Int32.ofNat kk) 3 (own_upd (own_upd (own_upd (fun _ => 0) 0 (nar .boolean (if (((Int32.ofNat kk) >>> ((0 : Int32) &&& 31)) &&& (1 : Int32)) = (0 : Int32) then (0 : Int32) else (1 : Int32)))) 1 (nar .boolean (if (((Int32.ofNat kk) >>> ((1 : Int32) &&& 31)) &&& (1 : Int32)) = (0 : Int32) then (0 : Int32) else (1 : Int32)))) 2 (nar .boolean (if (((Int32.ofNat kk) >>> ((2 : Int32) &&& 31)) &&& (1 : Int32)) = (0 : Int32) then (0 : Int32) else (1 : Int32)))) 3 h56 n0 Z56 G56_0 gb53 rfl (by decide) (by decide)) hZ (hw _ (List.mem_of_getElem? (i := 5) rfl)) (hw _ (List.mem_of_getElem? (i := 4) rfl)) (by decide) (by decide)) (g := (mkF m 58 #[.val (.int p0), .val (.int p1), .val (.int (3 : Int32)), .val (.int (7 : Int32)), .val (.int (Int32.ofNat kk)), .val (.ref b53), .unset, .unset, .unset] [(.int (Int32.ofNat kk)), (.int (3 : Int32)), (.ref b53)])) rfl (by rw [hml]; rfl) (argsL := [(.ref b53), (.int (3 : Int32)), (.int (Int32.ofNat kk))]) (rest := []) (lenOf pd_0 rfl) rfl (by show 2 * 0 + _ ≤ _; exact Nat.le_of_eq rfl) (hb hby at_58) (fun _ _ => ⟨rfl, e56, (by decide : 1 + 0 ≤ _), (by decide : 3 + 0 ≤ _)⟩)
    dsimp only [Pt.U, Pt.locs, Pt.cells, Pt.slots] at X57 l57 y57 z57 st57 hQ57
    subst l57 y57 z57
    obtain ⟨rfl, N57q, e57⟩ := hQ57
    have N57 := Fr.app N56 N57q
    refine Goes.go st57 ?_
    show Goes p e below s _ _ _ (T57.setTop (mkF m 61 #[.val (.int p0), .val (.int p1), .val (.int (3 : Int32)), .val (.int (7 : Int32)), .val (.int (Int32.ofNat kk)), .val (.ref b53), .unset, .unset, .unset] []))
    refine Goes.go (fun _ kst => XS.aload X57.here hx rfl (hb hby at_61) rfl rfl  kst) ?_
    show Goes p e below s _ _ _ (T57.setTop (mkF m 63 #[.val (.int p0), .val (.int p1), .val (.int (3 : Int32)), .val (.int (7 : Int32)), .val (.int (Int32.ofNat kk)), .val (.ref b53), .unset, .unset, .unset] [(.ref b53)]))
    refine Goes.go (fun _ kst => XS.iconst X57.here hx rfl (hb hby at_63) kst) ?_
    show Goes p e below s _ _ _ (T57.setTop (mkF m 64 #[.val (.int p0), .val (.int p1), .val (.int (3 : Int32)), .val (.int (7 : Int32)), .val (.int (Int32.ofNat kk)), .val (.ref b53), .unset, .unset, .unset] [(.int (4 : Int32)), (.ref b53)]))
    refine Goes.go (fun _ kst => XS.iload X57.here hx rfl (hb hby at_64) rfl  kst) ?_
    show Goes p e below s _ _ _ (T57.setTop (mkF m 66 #[.val (.int p0), .val (.int p1), .val (.int (3 : Int32)), .val (.int (7 : Int32)), .val (.int (Int32.ofNat kk)), .val (.ref b53), .unset, .unset, .unset] [(.int (Int32.ofNat kk)), (.int (4 : Int32)), (.ref b53)]))
    obtain ⟨_, _, ⟨T58, L58, k58, n58⟩, -, X58, ⟨Lc58, hQ58, l58, y58, z58⟩, st58⟩ := Jvm.LawKit.callS X57 hx (y := (⟨"com/example/surety/surety/DecompositionAdvancePinLaw", "set", "([ZII)V"⟩ : MethodName)) hown (mvT hZ (hw _ (List.mem_of_getElem? (i := 2) rfl))) (mvT hZ (hw _ (List.mem_of_getElem? (i := 3) rfl))) (mvT hZ (hw _ (List.mem_of_getElem? (i := 4) rfl))) (mvT hZ (hw _ (List.mem_of_getElem? (i := 5) rfl))) (by decide) (backOf (W := 0) (rm1b l Z a0 hw [] b53 (4 : Int32) (Int32.ofNat kk) 3 (own_upd (own_upd (own_upd (fun _ => 0) 0 (nar .boolean (if (((Int32.ofNat kk) >>> ((0 : Int32) &&& 31)) &&& (1 : Int32)) = (0 : Int32) then (0 : Int32) else (1 : Int32)))) 1 (nar .boolean (if (((Int32.ofNat kk) >>> ((1 : Int32) &&& 31)) &&& (1 : Int32)) = (0 : Int32) then (0 : Int32) else (1 : Int32)))) 2 (nar .boolean (if (((Int32.ofNat kk) >>> ((2 : Int32) &&& 31)) &&& (1 : Int32)) = (0 : Int32) then (0 : Int32) else (1 : Int32)))) 4 h56 n0 Z56 G56_0 gb53 rfl (by decide) (by decide)) hZ (hw _ (List.mem_of_getElem? (i := 5) rfl)) (hw _ (List.mem_of_getElem? (i := 4) rfl)) (by decide) (by decide)) (g := (mkF m 66 #[.val (.int p0), .val (.int p1), .val (.int (3 : Int32)), .val (.int (7 : Int32)), .val (.int (Int32.ofNat kk)), .val (.ref b53), .unset, .unset, .unset] [(.int (Int32.ofNat kk)), (.int (4 : Int32)), (.ref b53)])) rfl (by rw [hml]; rfl) (argsL := [(.ref b53), (.int (4 : Int32)), (.int (Int32.ofNat kk))]) (rest := []) (lenOf pd_0 rfl) rfl (by show 2 * 0 + _ ≤ _; exact Nat.le_of_eq rfl) (hb hby at_66) (fun _ _ => ⟨rfl, e57, (by decide : 1 + 0 ≤ _), (by decide : 3 + 0 ≤ _)⟩)
    dsimp only [Pt.U, Pt.locs, Pt.cells, Pt.slots] at X58 l58 y58 z58 st58 hQ58
    subst l58 y58 z58
    obtain ⟨rfl, N58q, e58⟩ := hQ58
    have N58 := Fr.app N57 N58q
    refine Goes.go st58 ?_
    show Goes p e below s _ _ _ (T58.setTop (mkF m 69 #[.val (.int p0), .val (.int p1), .val (.int (3 : Int32)), .val (.int (7 : Int32)), .val (.int (Int32.ofNat kk)), .val (.ref b53), .unset, .unset, .unset] []))
    refine Goes.go (fun _ kst => XS.aload X58.here hx rfl (hb hby at_69) rfl rfl  kst) ?_
    show Goes p e below s _ _ _ (T58.setTop (mkF m 71 #[.val (.int p0), .val (.int p1), .val (.int (3 : Int32)), .val (.int (7 : Int32)), .val (.int (Int32.ofNat kk)), .val (.ref b53), .unset, .unset, .unset] [(.ref b53)]))
    refine Goes.go (fun _ kst => XS.iconst X58.here hx rfl (hb hby at_71) kst) ?_
    show Goes p e below s _ _ _ (T58.setTop (mkF m 72 #[.val (.int p0), .val (.int p1), .val (.int (3 : Int32)), .val (.int (7 : Int32)), .val (.int (Int32.ofNat kk)), .val (.ref b53), .unset, .unset, .unset] [(.int (5 : Int32)), (.ref b53)]))
    refine Goes.go (fun _ kst => XS.iload X58.here hx rfl (hb hby at_72) rfl  kst) ?_
    show Goes p e below s _ _ _ (T58.setTop (mkF m 74 #[.val (.int p0), .val (.int p1), .val (.int (3 : Int32)), .val (.int (7 : Int32)), .val (.int (Int32.ofNat kk)), .val (.ref b53), .unset, .unset, .unset] [(.int (Int32.ofNat kk)), (.int (5 : Int32)), (.ref b53)]))
    obtain ⟨_, _, ⟨T59, L59, k59, n59⟩, -, X59, ⟨Lc59, hQ59, l59, y59, z59⟩, st59⟩ := Jvm.LawKit.callS X58 hx (y := (⟨"com/example/surety/surety/DecompositionAdvancePinLaw", "set", "([ZII)V"⟩ : MethodName)) hown (mvT hZ (hw _ (List.mem_of_getElem? (i := 2) rfl))) (mvT hZ (hw _ (List.mem_of_getElem? (i := 3) rfl))) (mvT hZ (hw _ (List.mem_of_getElem? (i := 4) rfl))) (mvT hZ (hw _ (List.mem_of_getElem? (i := 5) rfl))) (by decide) (backOf (W := 0) (rm1b l Z a0 hw [] b53 (5 : Int32) (Int32.ofNat kk) 3 (own_upd (own_upd (own_upd (fun _ => 0) 0 (nar .boolean (if (((Int32.ofNat kk) >>> ((0 : Int32) &&& 31)) &&& (1 : Int32)) = (0 : Int32) then (0 : Int32) else (1 : Int32)))) 1 (nar .boolean (if (((Int32.ofNat kk) >>> ((1 : Int32) &&& 31)) &&& (1 : Int32)) = (0 : Int32) then (0 : Int32) else (1 : Int32)))) 2 (nar .boolean (if (((Int32.ofNat kk) >>> ((2 : Int32) &&& 31)) &&& (1 : Int32)) = (0 : Int32) then (0 : Int32) else (1 : Int32)))) 5 h56 n0 Z56 G56_0 gb53 rfl (by decide) (by decide)) hZ (hw _ (List.mem_of_getElem? (i := 5) rfl)) (hw _ (List.mem_of_getElem? (i := 4) rfl)) (by decide) (by decide)) (g := (mkF m 74 #[.val (.int p0), .val (.int p1), .val (.int (3 : Int32)), .val (.int (7 : Int32)), .val (.int (Int32.ofNat kk)), .val (.ref b53), .unset, .unset, .unset] [(.int (Int32.ofNat kk)), (.int (5 : Int32)), (.ref b53)])) rfl (by rw [hml]; rfl) (argsL := [(.ref b53), (.int (5 : Int32)), (.int (Int32.ofNat kk))]) (rest := []) (lenOf pd_0 rfl) rfl (by show 2 * 0 + _ ≤ _; exact Nat.le_of_eq rfl) (hb hby at_74) (fun _ _ => ⟨rfl, e58, (by decide : 1 + 0 ≤ _), (by decide : 3 + 0 ≤ _)⟩)
    dsimp only [Pt.U, Pt.locs, Pt.cells, Pt.slots] at X59 l59 y59 z59 st59 hQ59
    subst l59 y59 z59
    obtain ⟨rfl, N59q, e59⟩ := hQ59
    have N59 := Fr.app N58 N59q
    refine Goes.go st59 ?_
    have An60 := G56_0
    generalize hv_vv : (own_upd (own_upd (own_upd (fun _ => 0) 0 (nar .boolean (if (((Int32.ofNat kk) >>> ((0 : Int32) &&& 31)) &&& (1 : Int32)) = (0 : Int32) then (0 : Int32) else (1 : Int32)))) 1 (nar .boolean (if (((Int32.ofNat kk) >>> ((1 : Int32) &&& 31)) &&& (1 : Int32)) = (0 : Int32) then (0 : Int32) else (1 : Int32)))) 2 (nar .boolean (if (((Int32.ofNat kk) >>> ((2 : Int32) &&& 31)) &&& (1 : Int32)) = (0 : Int32) then (0 : Int32) else (1 : Int32)))) = vv at An60 hfz hall gg0 gg1 gg2 gg3 gg4 gg5
    show Goes p e below s _ _ _ (T59.setTop (mkF m 77 #[.val (.int p0), .val (.int p1), .val (.int (3 : Int32)), .val (.int (7 : Int32)), .val (.int (Int32.ofNat kk)), .val (.ref b53), .unset, .unset, .unset] []))
    refine Goes.go (fun _ kst => XS.aload X59.here hx rfl (hb hby at_77) rfl rfl  kst) ?_
    show Goes p e below s _ _ _ (T59.setTop (mkF m 79 #[.val (.int p0), .val (.int p1), .val (.int (3 : Int32)), .val (.int (7 : Int32)), .val (.int (Int32.ofNat kk)), .val (.ref b53), .unset, .unset, .unset] [(.ref b53)]))
    obtain ⟨_, _, ⟨T61, L61, k61, n61⟩, -, X61, ⟨Lc61, hQ61, l61, y61, z61⟩, st61⟩ := Jvm.LawKit.callS X59 hx (y := (⟨"com/example/surety/surety/Decomposition", "advance", "([Z)Z"⟩ : MethodName)) hown (mvT hZ (hw _ (List.mem_of_getElem? (i := 6) rfl))) (mvT hZ (hw _ (List.mem_of_getElem? (i := 7) rfl))) (mvT hZ (hw _ (List.mem_of_getElem? (i := 8) rfl))) (mvT hZ (hw _ (List.mem_of_getElem? (i := 9) rfl))) (by decide) (backOf (W := 0) (rm2 l Z a0 hw [] b53 3 vv h56 n0 Z56 An60 gb53 hfz) hZ (hw _ (List.mem_of_getElem? (i := 9) rfl)) (hw _ (List.mem_of_getElem? (i := 8) rfl)) (by decide) (by decide)) (g := (mkF m 79 #[.val (.int p0), .val (.int p1), .val (.int (3 : Int32)), .val (.int (7 : Int32)), .val (.int (Int32.ofNat kk)), .val (.ref b53), .unset, .unset, .unset] [(.ref b53)])) rfl (by rw [hml]; rfl) (argsL := [(.ref b53)]) (rest := []) (lenOf pd_1 rfl) rfl (by show 2 * 0 + _ ≤ _; exact Nat.le_of_eq rfl) (hb hby at_79) (fun _ _ => ⟨rfl, e59, (by decide : 1 + 0 ≤ _), (by decide : 3 + 0 ≤ _)⟩)
    dsimp only [Pt.U, Pt.locs, Pt.cells, Pt.slots] at X61 l61 y61 z61 st61 hQ61
    subst l61 y61 z61
    obtain ⟨h61, e61⟩ : ∃ z, T61.heap = z := ⟨_, rfl⟩
    rw [e61] at hQ61
    obtain ⟨rfl, N61q, Kq61, A61⟩ := hQ61
    have N61 := Fr.app N59 N61q
    have K61 := Keep.trans K56 Kq61 (allS (Or.inr sb53) all0)
    have Z61 := Nat.le_trans Z56 Kq61.1
    refine Goes.go st61 ?_
    show Goes p e below s _ _ _ (T61.setTop (mkF m 82 #[.val (.int p0), .val (.int p1), .val (.int (3 : Int32)), .val (.int (7 : Int32)), .val (.int (Int32.ofNat kk)), .val (.ref b53), .unset, .unset, .unset] [(.int (own_all (own_W vv 3) 3 0))]))
    refine Goes.go (fun _ kst => XS.istore X61.here hx rfl (hb hby at_82) rfl (l' := #[.val (.int p0), .val (.int p1), .val (.int (3 : Int32)), .val (.int (7 : Int32)), .val (.int (Int32.ofNat kk)), .val (.ref b53), .val (.int (own_all (own_W vv 3) 3 0)), .unset, .unset]) rfl kst) ?_
    show Goes p e below s _ _ _ (T61.setTop (mkF m 84 #[.val (.int p0), .val (.int p1), .val (.int (3 : Int32)), .val (.int (7 : Int32)), .val (.int (Int32.ofNat kk)), .val (.ref b53), .val (.int (own_all (own_W vv 3) 3 0)), .unset, .unset] []))
    refine Goes.go (fun _ kst => XS.iload X61.here hx rfl (hb hby at_84) rfl  kst) ?_
    show Goes p e below s _ _ _ (T61.setTop (mkF m 86 #[.val (.int p0), .val (.int p1), .val (.int (3 : Int32)), .val (.int (7 : Int32)), .val (.int (Int32.ofNat kk)), .val (.ref b53), .val (.int (own_all (own_W vv 3) 3 0)), .unset, .unset] [(.int (Int32.ofNat kk))]))
    refine Goes.go (fun _ kst => XS.iconst X61.here hx rfl (hb hby at_86) kst) ?_
    show Goes p e below s _ _ _ (T61.setTop (mkF m 87 #[.val (.int p0), .val (.int p1), .val (.int (3 : Int32)), .val (.int (7 : Int32)), .val (.int (Int32.ofNat kk)), .val (.ref b53), .val (.int (own_all (own_W vv 3) 3 0)), .unset, .unset] [(.int (1 : Int32)), (.int (Int32.ofNat kk))]))
    refine Goes.go (fun _ kst => XS.iadd X61.here hx rfl (hb hby at_87) rfl kst) ?_
    show Goes p e below s _ _ _ (T61.setTop (mkF m 88 #[.val (.int p0), .val (.int p1), .val (.int (3 : Int32)), .val (.int (7 : Int32)), .val (.int (Int32.ofNat kk)), .val (.ref b53), .val (.int (own_all (own_W vv 3) 3 0)), .unset, .unset] [(.int ((Int32.ofNat kk) + (1 : Int32)))]))
    refine Goes.go (fun _ kst => XS.istore X61.here hx rfl (hb hby at_88) rfl (l' := #[.val (.int p0), .val (.int p1), .val (.int (3 : Int32)), .val (.int (7 : Int32)), .val (.int (Int32.ofNat kk)), .val (.ref b53), .val (.int (own_all (own_W vv 3) 3 0)), .val (.int ((Int32.ofNat kk) + (1 : Int32))), .unset]) rfl kst) ?_
    show Goes p e below s _ _ _ (T61.setTop (mkF m 90 #[.val (.int p0), .val (.int p1), .val (.int (3 : Int32)), .val (.int (7 : Int32)), .val (.int (Int32.ofNat kk)), .val (.ref b53), .val (.int (own_all (own_W vv 3) 3 0)), .val (.int ((Int32.ofNat kk) + (1 : Int32))), .unset] []))
    refine Goes.go (fun _ kst => XS.aload X61.here hx rfl (hb hby at_90) rfl rfl  kst) ?_
    show Goes p e below s _ _ _ (T61.setTop (mkF m 92 #[.val (.int p0), .val (.int p1), .val (.int (3 : Int32)), .val (.int (7 : Int32)), .val (.int (Int32.ofNat kk)), .val (.ref b53), .val (.int (own_all (own_W vv 3) 3 0)), .val (.int ((Int32.ofNat kk) + (1 : Int32))), .unset] [(.ref b53)]))
    refine Goes.go (own_len X61 hx hZ e61 A61 (g := (mkF m 92 #[.val (.int p0), .val (.int p1), .val (.int (3 : Int32)), .val (.int (7 : Int32)), .val (.int (Int32.ofNat kk)), .val (.ref b53), .val (.int (own_all (own_W vv 3) 3 0)), .val (.int ((Int32.ofNat kk) + (1 : Int32))), .unset] [(.ref b53)])) rfl rfl (hb hby at_92)) ?_
    show Goes p e below s _ _ _ (T61.setTop (mkF m 93 #[.val (.int p0), .val (.int p1), .val (.int (3 : Int32)), .val (.int (7 : Int32)), .val (.int (Int32.ofNat kk)), .val (.ref b53), .val (.int (own_all (own_W vv 3) 3 0)), .val (.int ((Int32.ofNat kk) + (1 : Int32))), .unset] [(.int (3 : Int32))]))
    refine Goes.go (fun _ kst => XS.iloadN X61.here hx rfl (hb hby at_93) rfl  kst) ?_
    show Goes p e below s _ _ _ (T61.setTop (mkF m 94 #[.val (.int p0), .val (.int p1), .val (.int (3 : Int32)), .val (.int (7 : Int32)), .val (.int (Int32.ofNat kk)), .val (.ref b53), .val (.int (own_all (own_W vv 3) 3 0)), .val (.int ((Int32.ofNat kk) + (1 : Int32))), .unset] [(.int (3 : Int32)), (.int (3 : Int32))]))
    have hc94_62 : (3 : Int32) = (3 : Int32) := (by decide)
    refine Goes.go (fun _ kst => XS.icmpNo X61.here hx rfl (hb hby at_94) rfl (teq hc94_62).2 kst) ?_
    show Goes p e below s _ _ _ (T61.setTop (mkF m 97 #[.val (.int p0), .val (.int p1), .val (.int (3 : Int32)), .val (.int (7 : Int32)), .val (.int (Int32.ofNat kk)), .val (.ref b53), .val (.int (own_all (own_W vv 3) 3 0)), .val (.int ((Int32.ofNat kk) + (1 : Int32))), .unset] []))
    refine Goes.go (fun _ kst => XS.iload X61.here hx rfl (hb hby at_97) rfl  kst) ?_
    show Goes p e below s _ _ _ (T61.setTop (mkF m 99 #[.val (.int p0), .val (.int p1), .val (.int (3 : Int32)), .val (.int (7 : Int32)), .val (.int (Int32.ofNat kk)), .val (.ref b53), .val (.int (own_all (own_W vv 3) 3 0)), .val (.int ((Int32.ofNat kk) + (1 : Int32))), .unset] [(.int (own_all (own_W vv 3) 3 0))]))
    refine Goes.go (fun _ kst => XS.iload X61.here hx rfl (hb hby at_99) rfl  kst) ?_
    show Goes p e below s _ _ _ (T61.setTop (mkF m 101 #[.val (.int p0), .val (.int p1), .val (.int (3 : Int32)), .val (.int (7 : Int32)), .val (.int (Int32.ofNat kk)), .val (.ref b53), .val (.int (own_all (own_W vv 3) 3 0)), .val (.int ((Int32.ofNat kk) + (1 : Int32))), .unset] [(.int ((Int32.ofNat kk) + (1 : Int32))), (.int (own_all (own_W vv 3) 3 0))]))
    refine Goes.go (fun _ kst => XS.iloadN X61.here hx rfl (hb hby at_101) rfl  kst) ?_
    show Goes p e below s _ _ _ (T61.setTop (mkF m 102 #[.val (.int p0), .val (.int p1), .val (.int (3 : Int32)), .val (.int (7 : Int32)), .val (.int (Int32.ofNat kk)), .val (.ref b53), .val (.int (own_all (own_W vv 3) 3 0)), .val (.int ((Int32.ofNat kk) + (1 : Int32))), .unset] [(.int (7 : Int32)), (.int ((Int32.ofNat kk) + (1 : Int32))), (.int (own_all (own_W vv 3) 3 0))]))
    obtain ⟨z63_s0, hz63_s0⟩ : ∃ z : Int32, z = if ((Int32.ofNat kk) + (1 : Int32)) = (7 : Int32) then (0 : Int32) else (1 : Int32) := ⟨_, rfl⟩
    have sm63 : ∀ t, Steps p.tables e below (T61.setTop (mkF m 110 #[.val (.int p0), .val (.int p1), .val (.int (3 : Int32)), .val (.int (7 : Int32)), .val (.int (Int32.ofNat kk)), .val (.ref b53), .val (.int (own_all (own_W vv 3) 3 0)), .val (.int ((Int32.ofNat kk) + (1 : Int32))), .unset] [(.int z63_s0), (.int (own_all (own_W vv 3) 3 0))])) t → Steps p.tables e below (T61.setTop (mkF m 102 #[.val (.int p0), .val (.int p1), .val (.int (3 : Int32)), .val (.int (7 : Int32)), .val (.int (Int32.ofNat kk)), .val (.ref b53), .val (.int (own_all (own_W vv 3) 3 0)), .val (.int ((Int32.ofNat kk) + (1 : Int32))), .unset] [(.int (7 : Int32)), (.int ((Int32.ofNat kk) + (1 : Int32))), (.int (own_all (own_W vv 3) 3 0))])) t := by
      intro t kst
      by_cases hc102_63 : ((Int32.ofNat kk) + (1 : Int32)) = (7 : Int32)
      · have kst2 : Steps p.tables e below (T61.setTop (mkF m 110 #[.val (.int p0), .val (.int p1), .val (.int (3 : Int32)), .val (.int (7 : Int32)), .val (.int (Int32.ofNat kk)), .val (.ref b53), .val (.int (own_all (own_W vv 3) 3 0)), .val (.int ((Int32.ofNat kk) + (1 : Int32))), .unset] [(.int (0 : Int32)), (.int (own_all (own_W vv 3) 3 0))])) t := by simpa only [hz63_s0, if_pos hc102_63] using kst
        show Steps p.tables e below (T61.setTop (mkF m 102 #[.val (.int p0), .val (.int p1), .val (.int (3 : Int32)), .val (.int (7 : Int32)), .val (.int (Int32.ofNat kk)), .val (.ref b53), .val (.int (own_all (own_W vv 3) 3 0)), .val (.int ((Int32.ofNat kk) + (1 : Int32))), .unset] [(.int (7 : Int32)), (.int ((Int32.ofNat kk) + (1 : Int32))), (.int (own_all (own_W vv 3) 3 0))])) _
        refine XS.icmpYes X61.here hx rfl (pc0 := 102) (pc' := 109) rfl (hb hby at_102) rfl (teq hc102_63).1 (by decide) (by decide) ?_
        show Steps p.tables e below (T61.setTop (mkF m 109 #[.val (.int p0), .val (.int p1), .val (.int (3 : Int32)), .val (.int (7 : Int32)), .val (.int (Int32.ofNat kk)), .val (.ref b53), .val (.int (own_all (own_W vv 3) 3 0)), .val (.int ((Int32.ofNat kk) + (1 : Int32))), .unset] [(.int (own_all (own_W vv 3) 3 0))])) _
        refine XS.iconst X61.here hx rfl (hb hby at_109) ?_
        exact kst2
      · have kst2 : Steps p.tables e below (T61.setTop (mkF m 110 #[.val (.int p0), .val (.int p1), .val (.int (3 : Int32)), .val (.int (7 : Int32)), .val (.int (Int32.ofNat kk)), .val (.ref b53), .val (.int (own_all (own_W vv 3) 3 0)), .val (.int ((Int32.ofNat kk) + (1 : Int32))), .unset] [(.int (1 : Int32)), (.int (own_all (own_W vv 3) 3 0))])) t := by simpa only [hz63_s0, if_neg hc102_63] using kst
        show Steps p.tables e below (T61.setTop (mkF m 102 #[.val (.int p0), .val (.int p1), .val (.int (3 : Int32)), .val (.int (7 : Int32)), .val (.int (Int32.ofNat kk)), .val (.ref b53), .val (.int (own_all (own_W vv 3) 3 0)), .val (.int ((Int32.ofNat kk) + (1 : Int32))), .unset] [(.int (7 : Int32)), (.int ((Int32.ofNat kk) + (1 : Int32))), (.int (own_all (own_W vv 3) 3 0))])) _
        refine XS.icmpNo X61.here hx rfl (hb hby at_102) rfl (feq hc102_63).1 ?_
        show Steps p.tables e below (T61.setTop (mkF m 105 #[.val (.int p0), .val (.int p1), .val (.int (3 : Int32)), .val (.int (7 : Int32)), .val (.int (Int32.ofNat kk)), .val (.ref b53), .val (.int (own_all (own_W vv 3) 3 0)), .val (.int ((Int32.ofNat kk) + (1 : Int32))), .unset] [(.int (own_all (own_W vv 3) 3 0))])) _
        refine XS.iconst X61.here hx rfl (hb hby at_105) ?_
        show Steps p.tables e below (T61.setTop (mkF m 106 #[.val (.int p0), .val (.int p1), .val (.int (3 : Int32)), .val (.int (7 : Int32)), .val (.int (Int32.ofNat kk)), .val (.ref b53), .val (.int (own_all (own_W vv 3) 3 0)), .val (.int ((Int32.ofNat kk) + (1 : Int32))), .unset] [(.int (1 : Int32)), (.int (own_all (own_W vv 3) 3 0))])) _
        refine XS.goto X61.here hx rfl (pc0 := 106) (pc' := 110) rfl (hb hby at_106) (by decide) (by decide) ?_
        exact kst2
    refine Goes.go sm63 ?_
    show Goes p e below s _ _ _ (T61.setTop (mkF m 110 #[.val (.int p0), .val (.int p1), .val (.int (3 : Int32)), .val (.int (7 : Int32)), .val (.int (Int32.ofNat kk)), .val (.ref b53), .val (.int (own_all (own_W vv 3) 3 0)), .val (.int ((Int32.ofNat kk) + (1 : Int32))), .unset] [(.int z63_s0), (.int (own_all (own_W vv 3) 3 0))]))
    have hc110_64 : (own_all (own_W vv 3) 3 0) = z63_s0 := by rw [hz63_s0]; exact hall
    refine Goes.go (fun _ kst => XS.icmpNo X61.here hx rfl (hb hby at_110) rfl (teq hc110_64).2 kst) ?_
    show Goes p e below s _ _ _ (T61.setTop (mkF m 113 #[.val (.int p0), .val (.int p1), .val (.int (3 : Int32)), .val (.int (7 : Int32)), .val (.int (Int32.ofNat kk)), .val (.ref b53), .val (.int (own_all (own_W vv 3) 3 0)), .val (.int ((Int32.ofNat kk) + (1 : Int32))), .unset] []))
    refine Goes.go (fun _ kst => XS.iconst X61.here hx rfl (hb hby at_113) kst) ?_
    show Goes p e below s _ _ _ (T61.setTop (mkF m 114 #[.val (.int p0), .val (.int p1), .val (.int (3 : Int32)), .val (.int (7 : Int32)), .val (.int (Int32.ofNat kk)), .val (.ref b53), .val (.int (own_all (own_W vv 3) 3 0)), .val (.int ((Int32.ofNat kk) + (1 : Int32))), .unset] [(.int (1 : Int32))]))
    refine Goes.go (fun _ kst => XS.goto X61.here hx rfl (pc0 := 114) (pc' := 118) rfl (hb hby at_114) (by decide) (by decide) kst) ?_
    show Goes p e below s _ _ _ (T61.setTop (mkF m 118 #[.val (.int p0), .val (.int p1), .val (.int (3 : Int32)), .val (.int (7 : Int32)), .val (.int (Int32.ofNat kk)), .val (.ref b53), .val (.int (own_all (own_W vv 3) 3 0)), .val (.int ((Int32.ofNat kk) + (1 : Int32))), .unset] [(.int (1 : Int32))]))
    refine Goes.go (fun _ kst => XS.istore X61.here hx rfl (hb hby at_118) rfl (l' := #[.val (.int p0), .val (.int p1), .val (.int (3 : Int32)), .val (.int (7 : Int32)), .val (.int (Int32.ofNat kk)), .val (.ref b53), .val (.int (own_all (own_W vv 3) 3 0)), .val (.int ((Int32.ofNat kk) + (1 : Int32))), .val (.int (1 : Int32))]) rfl kst) ?_
    show Goes p e below s _ _ _ (T61.setTop (mkF m 120 #[.val (.int p0), .val (.int p1), .val (.int (3 : Int32)), .val (.int (7 : Int32)), .val (.int (Int32.ofNat kk)), .val (.ref b53), .val (.int (own_all (own_W vv 3) 3 0)), .val (.int ((Int32.ofNat kk) + (1 : Int32))), .val (.int (1 : Int32))] []))
    refine Goes.go (fun _ kst => XS.iload X61.here hx rfl (hb hby at_120) rfl  kst) ?_
    show Goes p e below s _ _ _ (T61.setTop (mkF m 122 #[.val (.int p0), .val (.int p1), .val (.int (3 : Int32)), .val (.int (7 : Int32)), .val (.int (Int32.ofNat kk)), .val (.ref b53), .val (.int (own_all (own_W vv 3) 3 0)), .val (.int ((Int32.ofNat kk) + (1 : Int32))), .val (.int (1 : Int32))] [(.int (1 : Int32))]))
    have hc122_65 : ¬ ((1 : Int32) = (0 : Int32)) := (by decide)
    refine Goes.go (fun _ kst => XS.ifNo X61.here hx rfl (hb hby at_122) rfl ((if0 _ _).trans (feq hc122_65).1) kst) ?_
    show Goes p e below s _ _ _ (T61.setTop (mkF m 125 #[.val (.int p0), .val (.int p1), .val (.int (3 : Int32)), .val (.int (7 : Int32)), .val (.int (Int32.ofNat kk)), .val (.ref b53), .val (.int (own_all (own_W vv 3) 3 0)), .val (.int ((Int32.ofNat kk) + (1 : Int32))), .val (.int (1 : Int32))] []))
    refine Goes.go (fun _ kst => XS.aload X61.here hx rfl (hb hby at_125) rfl rfl  kst) ?_
    show Goes p e below s _ _ _ (T61.setTop (mkF m 127 #[.val (.int p0), .val (.int p1), .val (.int (3 : Int32)), .val (.int (7 : Int32)), .val (.int (Int32.ofNat kk)), .val (.ref b53), .val (.int (own_all (own_W vv 3) 3 0)), .val (.int ((Int32.ofNat kk) + (1 : Int32))), .val (.int (1 : Int32))] [(.ref b53)]))
    refine Goes.go (fun _ kst => XS.iconst X61.here hx rfl (hb hby at_127) kst) ?_
    show Goes p e below s _ _ _ (T61.setTop (mkF m 128 #[.val (.int p0), .val (.int p1), .val (.int (3 : Int32)), .val (.int (7 : Int32)), .val (.int (Int32.ofNat kk)), .val (.ref b53), .val (.int (own_all (own_W vv 3) 3 0)), .val (.int ((Int32.ofNat kk) + (1 : Int32))), .val (.int (1 : Int32))] [(.int (0 : Int32)), (.ref b53)]))
    refine Goes.go (fun _ kst => XS.iload X61.here hx rfl (hb hby at_128) rfl  kst) ?_
    show Goes p e below s _ _ _ (T61.setTop (mkF m 130 #[.val (.int p0), .val (.int p1), .val (.int (3 : Int32)), .val (.int (7 : Int32)), .val (.int (Int32.ofNat kk)), .val (.ref b53), .val (.int (own_all (own_W vv 3) 3 0)), .val (.int ((Int32.ofNat kk) + (1 : Int32))), .val (.int (1 : Int32))] [(.int ((Int32.ofNat kk) + (1 : Int32))), (.int (0 : Int32)), (.ref b53)]))
    obtain ⟨_, _, ⟨T66, L66, k66, n66⟩, -, X66, ⟨Lc66, hQ66, l66, y66, z66⟩, st66⟩ := Jvm.LawKit.callS X61 hx (y := (⟨"com/example/surety/surety/DecompositionAdvancePinLaw", "same", "([ZII)Z"⟩ : MethodName)) hown (mvT hZ (hw _ (List.mem_of_getElem? (i := 10) rfl))) (mvT hZ (hw _ (List.mem_of_getElem? (i := 11) rfl))) (mvT hZ (hw _ (List.mem_of_getElem? (i := 4) rfl))) (mvT hZ (hw _ (List.mem_of_getElem? (i := 12) rfl))) (by decide) (backOf (W := 0) (rm3 l Z a0 hw [] b53 (0 : Int32) ((Int32.ofNat kk) + (1 : Int32)) 3 (own_W vv 3) 0 h61 n0 Z61 A61 rfl (by decide)) hZ (hw _ (List.mem_of_getElem? (i := 12) rfl)) (hw _ (List.mem_of_getElem? (i := 4) rfl)) (by decide) (by decide)) (g := (mkF m 130 #[.val (.int p0), .val (.int p1), .val (.int (3 : Int32)), .val (.int (7 : Int32)), .val (.int (Int32.ofNat kk)), .val (.ref b53), .val (.int (own_all (own_W vv 3) 3 0)), .val (.int ((Int32.ofNat kk) + (1 : Int32))), .val (.int (1 : Int32))] [(.int ((Int32.ofNat kk) + (1 : Int32))), (.int (0 : Int32)), (.ref b53)])) rfl (by rw [hml]; rfl) (argsL := [(.ref b53), (.int (0 : Int32)), (.int ((Int32.ofNat kk) + (1 : Int32)))]) (rest := []) (lenOf pd_2 rfl) rfl (by show 2 * 0 + _ ≤ _; exact Nat.le_of_eq rfl) (hb hby at_130) (fun _ _ => ⟨rfl, e61, (by decide : 1 + 0 ≤ _), (by decide : 3 + 0 ≤ _)⟩)
    dsimp only [Pt.U, Pt.locs, Pt.cells, Pt.slots] at X66 l66 y66 z66 st66 hQ66
    subst l66 y66 z66
    obtain ⟨rfl, N66q, e66⟩ := hQ66
    have N66 := Fr.app N61 N66q
    refine Goes.go st66 ?_
    show Goes p e below s _ _ _ (T66.setTop (mkF m 133 #[.val (.int p0), .val (.int p1), .val (.int (3 : Int32)), .val (.int (7 : Int32)), .val (.int (Int32.ofNat kk)), .val (.ref b53), .val (.int (own_all (own_W vv 3) 3 0)), .val (.int ((Int32.ofNat kk) + (1 : Int32))), .val (.int (1 : Int32))] [(.int (f3 b53 (0 : Int32) ((Int32.ofNat kk) + (1 : Int32)) 3 (own_W vv 3) 0))]))
    have hc133_67 : ¬ ((f3 b53 (0 : Int32) ((Int32.ofNat kk) + (1 : Int32)) 3 (own_W vv 3) 0) = (0 : Int32)) := gg0
    refine Goes.go (fun _ kst => XS.ifNo X66.here hx rfl (hb hby at_133) rfl ((if0 _ _).trans (feq hc133_67).1) kst) ?_
    show Goes p e below s _ _ _ (T66.setTop (mkF m 136 #[.val (.int p0), .val (.int p1), .val (.int (3 : Int32)), .val (.int (7 : Int32)), .val (.int (Int32.ofNat kk)), .val (.ref b53), .val (.int (own_all (own_W vv 3) 3 0)), .val (.int ((Int32.ofNat kk) + (1 : Int32))), .val (.int (1 : Int32))] []))
    refine Goes.go (fun _ kst => XS.aload X66.here hx rfl (hb hby at_136) rfl rfl  kst) ?_
    show Goes p e below s _ _ _ (T66.setTop (mkF m 138 #[.val (.int p0), .val (.int p1), .val (.int (3 : Int32)), .val (.int (7 : Int32)), .val (.int (Int32.ofNat kk)), .val (.ref b53), .val (.int (own_all (own_W vv 3) 3 0)), .val (.int ((Int32.ofNat kk) + (1 : Int32))), .val (.int (1 : Int32))] [(.ref b53)]))
    refine Goes.go (fun _ kst => XS.iconst X66.here hx rfl (hb hby at_138) kst) ?_
    show Goes p e below s _ _ _ (T66.setTop (mkF m 139 #[.val (.int p0), .val (.int p1), .val (.int (3 : Int32)), .val (.int (7 : Int32)), .val (.int (Int32.ofNat kk)), .val (.ref b53), .val (.int (own_all (own_W vv 3) 3 0)), .val (.int ((Int32.ofNat kk) + (1 : Int32))), .val (.int (1 : Int32))] [(.int (1 : Int32)), (.ref b53)]))
    refine Goes.go (fun _ kst => XS.iload X66.here hx rfl (hb hby at_139) rfl  kst) ?_
    show Goes p e below s _ _ _ (T66.setTop (mkF m 141 #[.val (.int p0), .val (.int p1), .val (.int (3 : Int32)), .val (.int (7 : Int32)), .val (.int (Int32.ofNat kk)), .val (.ref b53), .val (.int (own_all (own_W vv 3) 3 0)), .val (.int ((Int32.ofNat kk) + (1 : Int32))), .val (.int (1 : Int32))] [(.int ((Int32.ofNat kk) + (1 : Int32))), (.int (1 : Int32)), (.ref b53)]))
    obtain ⟨_, _, ⟨T68, L68, k68, n68⟩, -, X68, ⟨Lc68, hQ68, l68, y68, z68⟩, st68⟩ := Jvm.LawKit.callS X66 hx (y := (⟨"com/example/surety/surety/DecompositionAdvancePinLaw", "same", "([ZII)Z"⟩ : MethodName)) hown (mvT hZ (hw _ (List.mem_of_getElem? (i := 10) rfl))) (mvT hZ (hw _ (List.mem_of_getElem? (i := 11) rfl))) (mvT hZ (hw _ (List.mem_of_getElem? (i := 4) rfl))) (mvT hZ (hw _ (List.mem_of_getElem? (i := 12) rfl))) (by decide) (backOf (W := 0) (rm3 l Z a0 hw [] b53 (1 : Int32) ((Int32.ofNat kk) + (1 : Int32)) 3 (own_W vv 3) 1 h61 n0 Z61 A61 rfl (by decide)) hZ (hw _ (List.mem_of_getElem? (i := 12) rfl)) (hw _ (List.mem_of_getElem? (i := 4) rfl)) (by decide) (by decide)) (g := (mkF m 141 #[.val (.int p0), .val (.int p1), .val (.int (3 : Int32)), .val (.int (7 : Int32)), .val (.int (Int32.ofNat kk)), .val (.ref b53), .val (.int (own_all (own_W vv 3) 3 0)), .val (.int ((Int32.ofNat kk) + (1 : Int32))), .val (.int (1 : Int32))] [(.int ((Int32.ofNat kk) + (1 : Int32))), (.int (1 : Int32)), (.ref b53)])) rfl (by rw [hml]; rfl) (argsL := [(.ref b53), (.int (1 : Int32)), (.int ((Int32.ofNat kk) + (1 : Int32)))]) (rest := []) (lenOf pd_2 rfl) rfl (by show 2 * 0 + _ ≤ _; exact Nat.le_of_eq rfl) (hb hby at_141) (fun _ _ => ⟨rfl, e66, (by decide : 1 + 0 ≤ _), (by decide : 3 + 0 ≤ _)⟩)
    dsimp only [Pt.U, Pt.locs, Pt.cells, Pt.slots] at X68 l68 y68 z68 st68 hQ68
    subst l68 y68 z68
    obtain ⟨rfl, N68q, e68⟩ := hQ68
    have N68 := Fr.app N66 N68q
    refine Goes.go st68 ?_
    show Goes p e below s _ _ _ (T68.setTop (mkF m 144 #[.val (.int p0), .val (.int p1), .val (.int (3 : Int32)), .val (.int (7 : Int32)), .val (.int (Int32.ofNat kk)), .val (.ref b53), .val (.int (own_all (own_W vv 3) 3 0)), .val (.int ((Int32.ofNat kk) + (1 : Int32))), .val (.int (1 : Int32))] [(.int (f3 b53 (1 : Int32) ((Int32.ofNat kk) + (1 : Int32)) 3 (own_W vv 3) 1))]))
    have hc144_69 : ¬ ((f3 b53 (1 : Int32) ((Int32.ofNat kk) + (1 : Int32)) 3 (own_W vv 3) 1) = (0 : Int32)) := gg1
    refine Goes.go (fun _ kst => XS.ifNo X68.here hx rfl (hb hby at_144) rfl ((if0 _ _).trans (feq hc144_69).1) kst) ?_
    show Goes p e below s _ _ _ (T68.setTop (mkF m 147 #[.val (.int p0), .val (.int p1), .val (.int (3 : Int32)), .val (.int (7 : Int32)), .val (.int (Int32.ofNat kk)), .val (.ref b53), .val (.int (own_all (own_W vv 3) 3 0)), .val (.int ((Int32.ofNat kk) + (1 : Int32))), .val (.int (1 : Int32))] []))
    refine Goes.go (fun _ kst => XS.aload X68.here hx rfl (hb hby at_147) rfl rfl  kst) ?_
    show Goes p e below s _ _ _ (T68.setTop (mkF m 149 #[.val (.int p0), .val (.int p1), .val (.int (3 : Int32)), .val (.int (7 : Int32)), .val (.int (Int32.ofNat kk)), .val (.ref b53), .val (.int (own_all (own_W vv 3) 3 0)), .val (.int ((Int32.ofNat kk) + (1 : Int32))), .val (.int (1 : Int32))] [(.ref b53)]))
    refine Goes.go (fun _ kst => XS.iconst X68.here hx rfl (hb hby at_149) kst) ?_
    show Goes p e below s _ _ _ (T68.setTop (mkF m 150 #[.val (.int p0), .val (.int p1), .val (.int (3 : Int32)), .val (.int (7 : Int32)), .val (.int (Int32.ofNat kk)), .val (.ref b53), .val (.int (own_all (own_W vv 3) 3 0)), .val (.int ((Int32.ofNat kk) + (1 : Int32))), .val (.int (1 : Int32))] [(.int (2 : Int32)), (.ref b53)]))
    refine Goes.go (fun _ kst => XS.iload X68.here hx rfl (hb hby at_150) rfl  kst) ?_
    show Goes p e below s _ _ _ (T68.setTop (mkF m 152 #[.val (.int p0), .val (.int p1), .val (.int (3 : Int32)), .val (.int (7 : Int32)), .val (.int (Int32.ofNat kk)), .val (.ref b53), .val (.int (own_all (own_W vv 3) 3 0)), .val (.int ((Int32.ofNat kk) + (1 : Int32))), .val (.int (1 : Int32))] [(.int ((Int32.ofNat kk) + (1 : Int32))), (.int (2 : Int32)), (.ref b53)]))
    obtain ⟨_, _, ⟨T70, L70, k70, n70⟩, -, X70, ⟨Lc70, hQ70, l70, y70, z70⟩, st70⟩ := Jvm.LawKit.callS X68 hx (y := (⟨"com/example/surety/surety/DecompositionAdvancePinLaw", "same", "([ZII)Z"⟩ : MethodName)) hown (mvT hZ (hw _ (List.mem_of_getElem? (i := 10) rfl))) (mvT hZ (hw _ (List.mem_of_getElem? (i := 11) rfl))) (mvT hZ (hw _ (List.mem_of_getElem? (i := 4) rfl))) (mvT hZ (hw _ (List.mem_of_getElem? (i := 12) rfl))) (by decide) (backOf (W := 0) (rm3 l Z a0 hw [] b53 (2 : Int32) ((Int32.ofNat kk) + (1 : Int32)) 3 (own_W vv 3) 2 h61 n0 Z61 A61 rfl (by decide)) hZ (hw _ (List.mem_of_getElem? (i := 12) rfl)) (hw _ (List.mem_of_getElem? (i := 4) rfl)) (by decide) (by decide)) (g := (mkF m 152 #[.val (.int p0), .val (.int p1), .val (.int (3 : Int32)), .val (.int (7 : Int32)), .val (.int (Int32.ofNat kk)), .val (.ref b53), .val (.int (own_all (own_W vv 3) 3 0)), .val (.int ((Int32.ofNat kk) + (1 : Int32))), .val (.int (1 : Int32))] [(.int ((Int32.ofNat kk) + (1 : Int32))), (.int (2 : Int32)), (.ref b53)])) rfl (by rw [hml]; rfl) (argsL := [(.ref b53), (.int (2 : Int32)), (.int ((Int32.ofNat kk) + (1 : Int32)))]) (rest := []) (lenOf pd_2 rfl) rfl (by show 2 * 0 + _ ≤ _; exact Nat.le_of_eq rfl) (hb hby at_152) (fun _ _ => ⟨rfl, e68, (by decide : 1 + 0 ≤ _), (by decide : 3 + 0 ≤ _)⟩)
    dsimp only [Pt.U, Pt.locs, Pt.cells, Pt.slots] at X70 l70 y70 z70 st70 hQ70
    subst l70 y70 z70
    obtain ⟨rfl, N70q, e70⟩ := hQ70
    have N70 := Fr.app N68 N70q
    refine Goes.go st70 ?_
    show Goes p e below s _ _ _ (T70.setTop (mkF m 155 #[.val (.int p0), .val (.int p1), .val (.int (3 : Int32)), .val (.int (7 : Int32)), .val (.int (Int32.ofNat kk)), .val (.ref b53), .val (.int (own_all (own_W vv 3) 3 0)), .val (.int ((Int32.ofNat kk) + (1 : Int32))), .val (.int (1 : Int32))] [(.int (f3 b53 (2 : Int32) ((Int32.ofNat kk) + (1 : Int32)) 3 (own_W vv 3) 2))]))
    have hc155_71 : ¬ ((f3 b53 (2 : Int32) ((Int32.ofNat kk) + (1 : Int32)) 3 (own_W vv 3) 2) = (0 : Int32)) := gg2
    refine Goes.go (fun _ kst => XS.ifNo X70.here hx rfl (hb hby at_155) rfl ((if0 _ _).trans (feq hc155_71).1) kst) ?_
    show Goes p e below s _ _ _ (T70.setTop (mkF m 158 #[.val (.int p0), .val (.int p1), .val (.int (3 : Int32)), .val (.int (7 : Int32)), .val (.int (Int32.ofNat kk)), .val (.ref b53), .val (.int (own_all (own_W vv 3) 3 0)), .val (.int ((Int32.ofNat kk) + (1 : Int32))), .val (.int (1 : Int32))] []))
    refine Goes.go (fun _ kst => XS.iconst X70.here hx rfl (hb hby at_158) kst) ?_
    show Goes p e below s _ _ _ (T70.setTop (mkF m 159 #[.val (.int p0), .val (.int p1), .val (.int (3 : Int32)), .val (.int (7 : Int32)), .val (.int (Int32.ofNat kk)), .val (.ref b53), .val (.int (own_all (own_W vv 3) 3 0)), .val (.int ((Int32.ofNat kk) + (1 : Int32))), .val (.int (1 : Int32))] [(.int (1 : Int32))]))
    refine Goes.go (fun _ kst => XS.goto X70.here hx rfl (pc0 := 159) (pc' := 163) rfl (hb hby at_159) (by decide) (by decide) kst) ?_
    show Goes p e below s _ _ _ (T70.setTop (mkF m 163 #[.val (.int p0), .val (.int p1), .val (.int (3 : Int32)), .val (.int (7 : Int32)), .val (.int (Int32.ofNat kk)), .val (.ref b53), .val (.int (own_all (own_W vv 3) 3 0)), .val (.int ((Int32.ofNat kk) + (1 : Int32))), .val (.int (1 : Int32))] [(.int (1 : Int32))]))
    refine Goes.go (fun _ kst => XS.istore X70.here hx rfl (hb hby at_163) rfl (l' := #[.val (.int p0), .val (.int p1), .val (.int (3 : Int32)), .val (.int (7 : Int32)), .val (.int (Int32.ofNat kk)), .val (.ref b53), .val (.int (own_all (own_W vv 3) 3 0)), .val (.int ((Int32.ofNat kk) + (1 : Int32))), .val (.int (1 : Int32))]) rfl kst) ?_
    show Goes p e below s _ _ _ (T70.setTop (mkF m 165 #[.val (.int p0), .val (.int p1), .val (.int (3 : Int32)), .val (.int (7 : Int32)), .val (.int (Int32.ofNat kk)), .val (.ref b53), .val (.int (own_all (own_W vv 3) 3 0)), .val (.int ((Int32.ofNat kk) + (1 : Int32))), .val (.int (1 : Int32))] []))
    refine Goes.go (fun _ kst => XS.iload X70.here hx rfl (hb hby at_165) rfl  kst) ?_
    show Goes p e below s _ _ _ (T70.setTop (mkF m 167 #[.val (.int p0), .val (.int p1), .val (.int (3 : Int32)), .val (.int (7 : Int32)), .val (.int (Int32.ofNat kk)), .val (.ref b53), .val (.int (own_all (own_W vv 3) 3 0)), .val (.int ((Int32.ofNat kk) + (1 : Int32))), .val (.int (1 : Int32))] [(.int (1 : Int32))]))
    have hc167_72 : ¬ ((1 : Int32) = (0 : Int32)) := (by decide)
    refine Goes.go (fun _ kst => XS.ifNo X70.here hx rfl (hb hby at_167) rfl ((if0 _ _).trans (feq hc167_72).1) kst) ?_
    show Goes p e below s _ _ _ (T70.setTop (mkF m 170 #[.val (.int p0), .val (.int p1), .val (.int (3 : Int32)), .val (.int (7 : Int32)), .val (.int (Int32.ofNat kk)), .val (.ref b53), .val (.int (own_all (own_W vv 3) 3 0)), .val (.int ((Int32.ofNat kk) + (1 : Int32))), .val (.int (1 : Int32))] []))
    refine Goes.go (fun _ kst => XS.aload X70.here hx rfl (hb hby at_170) rfl rfl  kst) ?_
    show Goes p e below s _ _ _ (T70.setTop (mkF m 172 #[.val (.int p0), .val (.int p1), .val (.int (3 : Int32)), .val (.int (7 : Int32)), .val (.int (Int32.ofNat kk)), .val (.ref b53), .val (.int (own_all (own_W vv 3) 3 0)), .val (.int ((Int32.ofNat kk) + (1 : Int32))), .val (.int (1 : Int32))] [(.ref b53)]))
    refine Goes.go (fun _ kst => XS.iconst X70.here hx rfl (hb hby at_172) kst) ?_
    show Goes p e below s _ _ _ (T70.setTop (mkF m 173 #[.val (.int p0), .val (.int p1), .val (.int (3 : Int32)), .val (.int (7 : Int32)), .val (.int (Int32.ofNat kk)), .val (.ref b53), .val (.int (own_all (own_W vv 3) 3 0)), .val (.int ((Int32.ofNat kk) + (1 : Int32))), .val (.int (1 : Int32))] [(.int (3 : Int32)), (.ref b53)]))
    refine Goes.go (fun _ kst => XS.iload X70.here hx rfl (hb hby at_173) rfl  kst) ?_
    show Goes p e below s _ _ _ (T70.setTop (mkF m 175 #[.val (.int p0), .val (.int p1), .val (.int (3 : Int32)), .val (.int (7 : Int32)), .val (.int (Int32.ofNat kk)), .val (.ref b53), .val (.int (own_all (own_W vv 3) 3 0)), .val (.int ((Int32.ofNat kk) + (1 : Int32))), .val (.int (1 : Int32))] [(.int ((Int32.ofNat kk) + (1 : Int32))), (.int (3 : Int32)), (.ref b53)]))
    obtain ⟨_, _, ⟨T73, L73, k73, n73⟩, -, X73, ⟨Lc73, hQ73, l73, y73, z73⟩, st73⟩ := Jvm.LawKit.callS X70 hx (y := (⟨"com/example/surety/surety/DecompositionAdvancePinLaw", "same", "([ZII)Z"⟩ : MethodName)) hown (mvT hZ (hw _ (List.mem_of_getElem? (i := 10) rfl))) (mvT hZ (hw _ (List.mem_of_getElem? (i := 11) rfl))) (mvT hZ (hw _ (List.mem_of_getElem? (i := 4) rfl))) (mvT hZ (hw _ (List.mem_of_getElem? (i := 12) rfl))) (by decide) (backOf (W := 0) (rm3 l Z a0 hw [] b53 (3 : Int32) ((Int32.ofNat kk) + (1 : Int32)) 3 (own_W vv 3) 3 h61 n0 Z61 A61 rfl (by decide)) hZ (hw _ (List.mem_of_getElem? (i := 12) rfl)) (hw _ (List.mem_of_getElem? (i := 4) rfl)) (by decide) (by decide)) (g := (mkF m 175 #[.val (.int p0), .val (.int p1), .val (.int (3 : Int32)), .val (.int (7 : Int32)), .val (.int (Int32.ofNat kk)), .val (.ref b53), .val (.int (own_all (own_W vv 3) 3 0)), .val (.int ((Int32.ofNat kk) + (1 : Int32))), .val (.int (1 : Int32))] [(.int ((Int32.ofNat kk) + (1 : Int32))), (.int (3 : Int32)), (.ref b53)])) rfl (by rw [hml]; rfl) (argsL := [(.ref b53), (.int (3 : Int32)), (.int ((Int32.ofNat kk) + (1 : Int32)))]) (rest := []) (lenOf pd_2 rfl) rfl (by show 2 * 0 + _ ≤ _; exact Nat.le_of_eq rfl) (hb hby at_175) (fun _ _ => ⟨rfl, e70, (by decide : 1 + 0 ≤ _), (by decide : 3 + 0 ≤ _)⟩)
    dsimp only [Pt.U, Pt.locs, Pt.cells, Pt.slots] at X73 l73 y73 z73 st73 hQ73
    subst l73 y73 z73
    obtain ⟨rfl, N73q, e73⟩ := hQ73
    have N73 := Fr.app N70 N73q
    refine Goes.go st73 ?_
    show Goes p e below s _ _ _ (T73.setTop (mkF m 178 #[.val (.int p0), .val (.int p1), .val (.int (3 : Int32)), .val (.int (7 : Int32)), .val (.int (Int32.ofNat kk)), .val (.ref b53), .val (.int (own_all (own_W vv 3) 3 0)), .val (.int ((Int32.ofNat kk) + (1 : Int32))), .val (.int (1 : Int32))] [(.int (f3 b53 (3 : Int32) ((Int32.ofNat kk) + (1 : Int32)) 3 (own_W vv 3) 3))]))
    have hc178_74 : ¬ ((f3 b53 (3 : Int32) ((Int32.ofNat kk) + (1 : Int32)) 3 (own_W vv 3) 3) = (0 : Int32)) := gg3
    refine Goes.go (fun _ kst => XS.ifNo X73.here hx rfl (hb hby at_178) rfl ((if0 _ _).trans (feq hc178_74).1) kst) ?_
    show Goes p e below s _ _ _ (T73.setTop (mkF m 181 #[.val (.int p0), .val (.int p1), .val (.int (3 : Int32)), .val (.int (7 : Int32)), .val (.int (Int32.ofNat kk)), .val (.ref b53), .val (.int (own_all (own_W vv 3) 3 0)), .val (.int ((Int32.ofNat kk) + (1 : Int32))), .val (.int (1 : Int32))] []))
    refine Goes.go (fun _ kst => XS.aload X73.here hx rfl (hb hby at_181) rfl rfl  kst) ?_
    show Goes p e below s _ _ _ (T73.setTop (mkF m 183 #[.val (.int p0), .val (.int p1), .val (.int (3 : Int32)), .val (.int (7 : Int32)), .val (.int (Int32.ofNat kk)), .val (.ref b53), .val (.int (own_all (own_W vv 3) 3 0)), .val (.int ((Int32.ofNat kk) + (1 : Int32))), .val (.int (1 : Int32))] [(.ref b53)]))
    refine Goes.go (fun _ kst => XS.iconst X73.here hx rfl (hb hby at_183) kst) ?_
    show Goes p e below s _ _ _ (T73.setTop (mkF m 184 #[.val (.int p0), .val (.int p1), .val (.int (3 : Int32)), .val (.int (7 : Int32)), .val (.int (Int32.ofNat kk)), .val (.ref b53), .val (.int (own_all (own_W vv 3) 3 0)), .val (.int ((Int32.ofNat kk) + (1 : Int32))), .val (.int (1 : Int32))] [(.int (4 : Int32)), (.ref b53)]))
    refine Goes.go (fun _ kst => XS.iload X73.here hx rfl (hb hby at_184) rfl  kst) ?_
    show Goes p e below s _ _ _ (T73.setTop (mkF m 186 #[.val (.int p0), .val (.int p1), .val (.int (3 : Int32)), .val (.int (7 : Int32)), .val (.int (Int32.ofNat kk)), .val (.ref b53), .val (.int (own_all (own_W vv 3) 3 0)), .val (.int ((Int32.ofNat kk) + (1 : Int32))), .val (.int (1 : Int32))] [(.int ((Int32.ofNat kk) + (1 : Int32))), (.int (4 : Int32)), (.ref b53)]))
    obtain ⟨_, _, ⟨T75, L75, k75, n75⟩, -, X75, ⟨Lc75, hQ75, l75, y75, z75⟩, st75⟩ := Jvm.LawKit.callS X73 hx (y := (⟨"com/example/surety/surety/DecompositionAdvancePinLaw", "same", "([ZII)Z"⟩ : MethodName)) hown (mvT hZ (hw _ (List.mem_of_getElem? (i := 10) rfl))) (mvT hZ (hw _ (List.mem_of_getElem? (i := 11) rfl))) (mvT hZ (hw _ (List.mem_of_getElem? (i := 4) rfl))) (mvT hZ (hw _ (List.mem_of_getElem? (i := 12) rfl))) (by decide) (backOf (W := 0) (rm3 l Z a0 hw [] b53 (4 : Int32) ((Int32.ofNat kk) + (1 : Int32)) 3 (own_W vv 3) 4 h61 n0 Z61 A61 rfl (by decide)) hZ (hw _ (List.mem_of_getElem? (i := 12) rfl)) (hw _ (List.mem_of_getElem? (i := 4) rfl)) (by decide) (by decide)) (g := (mkF m 186 #[.val (.int p0), .val (.int p1), .val (.int (3 : Int32)), .val (.int (7 : Int32)), .val (.int (Int32.ofNat kk)), .val (.ref b53), .val (.int (own_all (own_W vv 3) 3 0)), .val (.int ((Int32.ofNat kk) + (1 : Int32))), .val (.int (1 : Int32))] [(.int ((Int32.ofNat kk) + (1 : Int32))), (.int (4 : Int32)), (.ref b53)])) rfl (by rw [hml]; rfl) (argsL := [(.ref b53), (.int (4 : Int32)), (.int ((Int32.ofNat kk) + (1 : Int32)))]) (rest := []) (lenOf pd_2 rfl) rfl (by show 2 * 0 + _ ≤ _; exact Nat.le_of_eq rfl) (hb hby at_186) (fun _ _ => ⟨rfl, e73, (by decide : 1 + 0 ≤ _), (by decide : 3 + 0 ≤ _)⟩)
    dsimp only [Pt.U, Pt.locs, Pt.cells, Pt.slots] at X75 l75 y75 z75 st75 hQ75
    subst l75 y75 z75
    obtain ⟨rfl, N75q, e75⟩ := hQ75
    have N75 := Fr.app N73 N75q
    refine Goes.go st75 ?_
    show Goes p e below s _ _ _ (T75.setTop (mkF m 189 #[.val (.int p0), .val (.int p1), .val (.int (3 : Int32)), .val (.int (7 : Int32)), .val (.int (Int32.ofNat kk)), .val (.ref b53), .val (.int (own_all (own_W vv 3) 3 0)), .val (.int ((Int32.ofNat kk) + (1 : Int32))), .val (.int (1 : Int32))] [(.int (f3 b53 (4 : Int32) ((Int32.ofNat kk) + (1 : Int32)) 3 (own_W vv 3) 4))]))
    have hc189_76 : ¬ ((f3 b53 (4 : Int32) ((Int32.ofNat kk) + (1 : Int32)) 3 (own_W vv 3) 4) = (0 : Int32)) := gg4
    refine Goes.go (fun _ kst => XS.ifNo X75.here hx rfl (hb hby at_189) rfl ((if0 _ _).trans (feq hc189_76).1) kst) ?_
    show Goes p e below s _ _ _ (T75.setTop (mkF m 192 #[.val (.int p0), .val (.int p1), .val (.int (3 : Int32)), .val (.int (7 : Int32)), .val (.int (Int32.ofNat kk)), .val (.ref b53), .val (.int (own_all (own_W vv 3) 3 0)), .val (.int ((Int32.ofNat kk) + (1 : Int32))), .val (.int (1 : Int32))] []))
    refine Goes.go (fun _ kst => XS.aload X75.here hx rfl (hb hby at_192) rfl rfl  kst) ?_
    show Goes p e below s _ _ _ (T75.setTop (mkF m 194 #[.val (.int p0), .val (.int p1), .val (.int (3 : Int32)), .val (.int (7 : Int32)), .val (.int (Int32.ofNat kk)), .val (.ref b53), .val (.int (own_all (own_W vv 3) 3 0)), .val (.int ((Int32.ofNat kk) + (1 : Int32))), .val (.int (1 : Int32))] [(.ref b53)]))
    refine Goes.go (fun _ kst => XS.iconst X75.here hx rfl (hb hby at_194) kst) ?_
    show Goes p e below s _ _ _ (T75.setTop (mkF m 195 #[.val (.int p0), .val (.int p1), .val (.int (3 : Int32)), .val (.int (7 : Int32)), .val (.int (Int32.ofNat kk)), .val (.ref b53), .val (.int (own_all (own_W vv 3) 3 0)), .val (.int ((Int32.ofNat kk) + (1 : Int32))), .val (.int (1 : Int32))] [(.int (5 : Int32)), (.ref b53)]))
    refine Goes.go (fun _ kst => XS.iload X75.here hx rfl (hb hby at_195) rfl  kst) ?_
    show Goes p e below s _ _ _ (T75.setTop (mkF m 197 #[.val (.int p0), .val (.int p1), .val (.int (3 : Int32)), .val (.int (7 : Int32)), .val (.int (Int32.ofNat kk)), .val (.ref b53), .val (.int (own_all (own_W vv 3) 3 0)), .val (.int ((Int32.ofNat kk) + (1 : Int32))), .val (.int (1 : Int32))] [(.int ((Int32.ofNat kk) + (1 : Int32))), (.int (5 : Int32)), (.ref b53)]))
    obtain ⟨_, _, ⟨T77, L77, k77, n77⟩, -, X77, ⟨Lc77, hQ77, l77, y77, z77⟩, st77⟩ := Jvm.LawKit.callS X75 hx (y := (⟨"com/example/surety/surety/DecompositionAdvancePinLaw", "same", "([ZII)Z"⟩ : MethodName)) hown (mvT hZ (hw _ (List.mem_of_getElem? (i := 10) rfl))) (mvT hZ (hw _ (List.mem_of_getElem? (i := 11) rfl))) (mvT hZ (hw _ (List.mem_of_getElem? (i := 4) rfl))) (mvT hZ (hw _ (List.mem_of_getElem? (i := 12) rfl))) (by decide) (backOf (W := 0) (rm3 l Z a0 hw [] b53 (5 : Int32) ((Int32.ofNat kk) + (1 : Int32)) 3 (own_W vv 3) 5 h61 n0 Z61 A61 rfl (by decide)) hZ (hw _ (List.mem_of_getElem? (i := 12) rfl)) (hw _ (List.mem_of_getElem? (i := 4) rfl)) (by decide) (by decide)) (g := (mkF m 197 #[.val (.int p0), .val (.int p1), .val (.int (3 : Int32)), .val (.int (7 : Int32)), .val (.int (Int32.ofNat kk)), .val (.ref b53), .val (.int (own_all (own_W vv 3) 3 0)), .val (.int ((Int32.ofNat kk) + (1 : Int32))), .val (.int (1 : Int32))] [(.int ((Int32.ofNat kk) + (1 : Int32))), (.int (5 : Int32)), (.ref b53)])) rfl (by rw [hml]; rfl) (argsL := [(.ref b53), (.int (5 : Int32)), (.int ((Int32.ofNat kk) + (1 : Int32)))]) (rest := []) (lenOf pd_2 rfl) rfl (by show 2 * 0 + _ ≤ _; exact Nat.le_of_eq rfl) (hb hby at_197) (fun _ _ => ⟨rfl, e75, (by decide : 1 + 0 ≤ _), (by decide : 3 + 0 ≤ _)⟩)
    dsimp only [Pt.U, Pt.locs, Pt.cells, Pt.slots] at X77 l77 y77 z77 st77 hQ77
    subst l77 y77 z77
    obtain ⟨rfl, N77q, e77⟩ := hQ77
    have N77 := Fr.app N75 N77q
    refine Goes.go st77 ?_
    show Goes p e below s _ _ _ (T77.setTop (mkF m 200 #[.val (.int p0), .val (.int p1), .val (.int (3 : Int32)), .val (.int (7 : Int32)), .val (.int (Int32.ofNat kk)), .val (.ref b53), .val (.int (own_all (own_W vv 3) 3 0)), .val (.int ((Int32.ofNat kk) + (1 : Int32))), .val (.int (1 : Int32))] [(.int (f3 b53 (5 : Int32) ((Int32.ofNat kk) + (1 : Int32)) 3 (own_W vv 3) 5))]))
    have hc200_78 : ¬ ((f3 b53 (5 : Int32) ((Int32.ofNat kk) + (1 : Int32)) 3 (own_W vv 3) 5) = (0 : Int32)) := gg5
    refine Goes.go (fun _ kst => XS.ifNo X77.here hx rfl (hb hby at_200) rfl ((if0 _ _).trans (feq hc200_78).1) kst) ?_
    show Goes p e below s _ _ _ (T77.setTop (mkF m 203 #[.val (.int p0), .val (.int p1), .val (.int (3 : Int32)), .val (.int (7 : Int32)), .val (.int (Int32.ofNat kk)), .val (.ref b53), .val (.int (own_all (own_W vv 3) 3 0)), .val (.int ((Int32.ofNat kk) + (1 : Int32))), .val (.int (1 : Int32))] []))
    refine Goes.go (fun _ kst => XS.iconst X77.here hx rfl (hb hby at_203) kst) ?_
    show Goes p e below s _ _ _ (T77.setTop (mkF m 204 #[.val (.int p0), .val (.int p1), .val (.int (3 : Int32)), .val (.int (7 : Int32)), .val (.int (Int32.ofNat kk)), .val (.ref b53), .val (.int (own_all (own_W vv 3) 3 0)), .val (.int ((Int32.ofNat kk) + (1 : Int32))), .val (.int (1 : Int32))] [(.int (1 : Int32))]))
    refine Goes.go (fun _ kst => XS.goto X77.here hx rfl (pc0 := 204) (pc' := 208) rfl (hb hby at_204) (by decide) (by decide) kst) ?_
    show Goes p e below s _ _ _ (T77.setTop (mkF m 208 #[.val (.int p0), .val (.int p1), .val (.int (3 : Int32)), .val (.int (7 : Int32)), .val (.int (Int32.ofNat kk)), .val (.ref b53), .val (.int (own_all (own_W vv 3) 3 0)), .val (.int ((Int32.ofNat kk) + (1 : Int32))), .val (.int (1 : Int32))] [(.int (1 : Int32))]))
    refine Goes.go (fun _ kst => XS.istore X77.here hx rfl (hb hby at_208) rfl (l' := #[.val (.int p0), .val (.int p1), .val (.int (3 : Int32)), .val (.int (7 : Int32)), .val (.int (Int32.ofNat kk)), .val (.ref b53), .val (.int (own_all (own_W vv 3) 3 0)), .val (.int ((Int32.ofNat kk) + (1 : Int32))), .val (.int (1 : Int32))]) rfl kst) ?_
    show Goes p e below s _ _ _ (T77.setTop (mkF m 210 #[.val (.int p0), .val (.int p1), .val (.int (3 : Int32)), .val (.int (7 : Int32)), .val (.int (Int32.ofNat kk)), .val (.ref b53), .val (.int (own_all (own_W vv 3) 3 0)), .val (.int ((Int32.ofNat kk) + (1 : Int32))), .val (.int (1 : Int32))] []))
    refine Goes.go (fun _ kst => XS.iload X77.here hx rfl (hb hby at_210) rfl  kst) ?_
    show Goes p e below s _ _ _ (T77.setTop (mkF m 212 #[.val (.int p0), .val (.int p1), .val (.int (3 : Int32)), .val (.int (7 : Int32)), .val (.int (Int32.ofNat kk)), .val (.ref b53), .val (.int (own_all (own_W vv 3) 3 0)), .val (.int ((Int32.ofNat kk) + (1 : Int32))), .val (.int (1 : Int32))] [(.int (1 : Int32))]))
    refine Goes.retN .boolean X77 hx hlk Bd.returns (by simp) (hb hby at_212) ?_ (by decide) (by decide)
    exact ⟨rfl, N77⟩
  · rw [show ((1 : Int32) + ((p0 &&& (2147483647 : Int32)) % (6 : Int32))) = (4 : Int32) from by rw [show ((p0 &&& (2147483647 : Int32)) % (6 : Int32)) = Int32.ofNat 3 from en]; rfl]
    show Goes p e below s _ _ _ (s₁.setTop (mkF m 10 #[.val (.int p0), .val (.int p1), .val (.int (4 : Int32)), .unset, .unset, .unset, .unset, .unset, .unset] []))
    refine Goes.go (fun _ kst => XS.iconst X0.here hx rfl (hb hby at_10) kst) ?_
    show Goes p e below s _ _ _ (s₁.setTop (mkF m 11 #[.val (.int p0), .val (.int p1), .val (.int (4 : Int32)), .unset, .unset, .unset, .unset, .unset, .unset] [(.int (1 : Int32))]))
    refine Goes.go (fun _ kst => XS.iloadN X0.here hx rfl (hb hby at_11) rfl  kst) ?_
    show Goes p e below s _ _ _ (s₁.setTop (mkF m 12 #[.val (.int p0), .val (.int p1), .val (.int (4 : Int32)), .unset, .unset, .unset, .unset, .unset, .unset] [(.int (4 : Int32)), (.int (1 : Int32))]))
    refine Goes.go (fun _ kst => XS.ishl X0.here hx rfl (hb hby at_12) rfl kst) ?_
    show Goes p e below s _ _ _ (s₁.setTop (mkF m 13 #[.val (.int p0), .val (.int p1), .val (.int (4 : Int32)), .unset, .unset, .unset, .unset, .unset, .unset] [(.int ((1 : Int32) <<< ((4 : Int32) &&& 31)))]))
    refine Goes.go (fun _ kst => XS.iconst X0.here hx rfl (hb hby at_13) kst) ?_
    show Goes p e below s _ _ _ (s₁.setTop (mkF m 14 #[.val (.int p0), .val (.int p1), .val (.int (4 : Int32)), .unset, .unset, .unset, .unset, .unset, .unset] [(.int (1 : Int32)), (.int ((1 : Int32) <<< ((4 : Int32) &&& 31)))]))
    refine Goes.go (fun _ kst => XS.isub X0.here hx rfl (hb hby at_14) rfl kst) ?_
    rw [show (((1 : Int32) <<< ((4 : Int32) &&& 31)) - (1 : Int32)) = (15 : Int32) from by decide]
    show Goes p e below s _ _ _ (s₁.setTop (mkF m 15 #[.val (.int p0), .val (.int p1), .val (.int (4 : Int32)), .unset, .unset, .unset, .unset, .unset, .unset] [(.int (15 : Int32))]))
    refine Goes.go (fun _ kst => XS.istoreN X0.here hx rfl (hb hby at_15) rfl (l' := #[.val (.int p0), .val (.int p1), .val (.int (4 : Int32)), .val (.int (15 : Int32)), .unset, .unset, .unset, .unset, .unset]) rfl kst) ?_
    show Goes p e below s _ _ _ (s₁.setTop (mkF m 16 #[.val (.int p0), .val (.int p1), .val (.int (4 : Int32)), .val (.int (15 : Int32)), .unset, .unset, .unset, .unset, .unset] []))
    refine Goes.go (fun _ kst => XS.iloadN X0.here hx rfl (hb hby at_16) rfl  kst) ?_
    show Goes p e below s _ _ _ (s₁.setTop (mkF m 17 #[.val (.int p0), .val (.int p1), .val (.int (4 : Int32)), .val (.int (15 : Int32)), .unset, .unset, .unset, .unset, .unset] [(.int p1)]))
    refine Goes.go (fun _ kst => X0.ldcInt hx hown (mvT hZ (hw _ (List.mem_of_getElem? (i := 0) rfl))) (g := (mkF m 17 #[.val (.int p0), .val (.int p1), .val (.int (4 : Int32)), .val (.int (15 : Int32)), .unset, .unset, .unset, .unset, .unset] [(.int p1)])) rfl (hb hby at_17) _ kst) ?_
    show Goes p e below s _ _ _ (s₁.setTop (mkF m 19 #[.val (.int p0), .val (.int p1), .val (.int (4 : Int32)), .val (.int (15 : Int32)), .unset, .unset, .unset, .unset, .unset] [(.int (2147483647 : Int32)), (.int p1)]))
    refine Goes.go (fun _ kst => XS.iand X0.here hx rfl (hb hby at_19) rfl kst) ?_
    show Goes p e below s _ _ _ (s₁.setTop (mkF m 20 #[.val (.int p0), .val (.int p1), .val (.int (4 : Int32)), .val (.int (15 : Int32)), .unset, .unset, .unset, .unset, .unset] [(.int (p1 &&& (2147483647 : Int32)))]))
    refine Goes.go (fun _ kst => XS.iloadN X0.here hx rfl (hb hby at_20) rfl  kst) ?_
    show Goes p e below s _ _ _ (s₁.setTop (mkF m 21 #[.val (.int p0), .val (.int p1), .val (.int (4 : Int32)), .val (.int (15 : Int32)), .unset, .unset, .unset, .unset, .unset] [(.int (15 : Int32)), (.int (p1 &&& (2147483647 : Int32)))]))
    refine Goes.go (fun _ kst => own_irem X0.here hx rfl (hb hby at_21) rfl (by decide) kst) ?_
    obtain ⟨kk, hkk, ekk⟩ := own_modN p1 15 (by decide) (by decide)
    have hT := own_t4 ⟨kk, hkk⟩
    dsimp only at hT
    obtain ⟨hfz, hall, gg0, gg1, gg2, gg3, gg4, gg5⟩ := hT
    rw [show ((p1 &&& (2147483647 : Int32)) % (15 : Int32)) = Int32.ofNat kk from ekk]
    show Goes p e below s _ _ _ (s₁.setTop (mkF m 22 #[.val (.int p0), .val (.int p1), .val (.int (4 : Int32)), .val (.int (15 : Int32)), .unset, .unset, .unset, .unset, .unset] [(.int (Int32.ofNat kk))]))
    refine Goes.go (fun _ kst => XS.istore X0.here hx rfl (hb hby at_22) rfl (l' := #[.val (.int p0), .val (.int p1), .val (.int (4 : Int32)), .val (.int (15 : Int32)), .val (.int (Int32.ofNat kk)), .unset, .unset, .unset, .unset]) rfl kst) ?_
    show Goes p e below s _ _ _ (s₁.setTop (mkF m 24 #[.val (.int p0), .val (.int p1), .val (.int (4 : Int32)), .val (.int (15 : Int32)), .val (.int (Int32.ofNat kk)), .unset, .unset, .unset, .unset] []))
    refine Goes.go (fun _ kst => XS.iloadN X0.here hx rfl (hb hby at_24) rfl  kst) ?_
    show Goes p e below s _ _ _ (s₁.setTop (mkF m 25 #[.val (.int p0), .val (.int p1), .val (.int (4 : Int32)), .val (.int (15 : Int32)), .val (.int (Int32.ofNat kk)), .unset, .unset, .unset, .unset] [(.int (4 : Int32))]))
    obtain ⟨T79, h79, X79, e79, E79, A79, EA79, st79⟩ := own_newA X0 hx hZ (hw _ (List.mem_of_getElem? (i := 1) rfl)) e0 (g := (mkF m 25 #[.val (.int p0), .val (.int p1), .val (.int (4 : Int32)), .val (.int (15 : Int32)), .val (.int (Int32.ofNat kk)), .unset, .unset, .unset, .unset] [(.int (4 : Int32))])) rfl (hb hby at_25) rfl (n := 4) rfl (cap := 4) (Nat.le_refl _) (by decide) (by decide) (by decide) (by decide) (by decide) (by decide : _ = "[Z")
    obtain ⟨b79, g79⟩ : ∃ z, z = h0.size := ⟨_, rfl⟩
    rw [← g79] at A79 EA79 st79
    have gb79 : n0 ≤ b79 := Nat.le_trans Z0 (Nat.le_of_eq g79.symm)
    have sb79 : h0.size ≤ b79 := Nat.le_trans K0.1 (Nat.le_of_eq g79.symm)
    have Z79 := Nat.le_trans Z0 E79.1
    have K79 := Keep.ext K0 E79
    refine Goes.go st79 ?_
    show Goes p e below s _ _ _ (T79.setTop (mkF m 27 #[.val (.int p0), .val (.int p1), .val (.int (4 : Int32)), .val (.int (15 : Int32)), .val (.int (Int32.ofNat kk)), .unset, .unset, .unset, .unset] [(.ref b79)]))
    refine Goes.go (fun _ kst => XS.astore X79.here hx rfl (hb hby at_27) rfl rfl (l' := #[.val (.int p0), .val (.int p1), .val (.int (4 : Int32)), .val (.int (15 : Int32)), .val (.int (Int32.ofNat kk)), .val (.ref b79), .unset, .unset, .unset]) rfl kst) ?_
    show Goes p e below s _ _ _ (T79.setTop (mkF m 29 #[.val (.int p0), .val (.int p1), .val (.int (4 : Int32)), .val (.int (15 : Int32)), .val (.int (Int32.ofNat kk)), .val (.ref b79), .unset, .unset, .unset] []))
    refine Goes.go (fun _ kst => XS.aload X79.here hx rfl (hb hby at_29) rfl rfl  kst) ?_
    show Goes p e below s _ _ _ (T79.setTop (mkF m 31 #[.val (.int p0), .val (.int p1), .val (.int (4 : Int32)), .val (.int (15 : Int32)), .val (.int (Int32.ofNat kk)), .val (.ref b79), .unset, .unset, .unset] [(.ref b79)]))
    refine Goes.go (fun _ kst => XS.iconst X79.here hx rfl (hb hby at_31) kst) ?_
    show Goes p e below s _ _ _ (T79.setTop (mkF m 32 #[.val (.int p0), .val (.int p1), .val (.int (4 : Int32)), .val (.int (15 : Int32)), .val (.int (Int32.ofNat kk)), .val (.ref b79), .unset, .unset, .unset] [(.int (0 : Int32)), (.ref b79)]))
    refine Goes.go (fun _ kst => XS.iload X79.here hx rfl (hb hby at_32) rfl  kst) ?_
    show Goes p e below s _ _ _ (T79.setTop (mkF m 34 #[.val (.int p0), .val (.int p1), .val (.int (4 : Int32)), .val (.int (15 : Int32)), .val (.int (Int32.ofNat kk)), .val (.ref b79), .unset, .unset, .unset] [(.int (Int32.ofNat kk)), (.int (0 : Int32)), (.ref b79)]))
    obtain ⟨_, _, ⟨T80, L80, k80, n80⟩, -, X80, ⟨Lc80, hQ80, l80, y80, z80⟩, st80⟩ := Jvm.LawKit.callS X79 hx (y := (⟨"com/example/surety/surety/DecompositionAdvancePinLaw", "set", "([ZII)V"⟩ : MethodName)) hown (mvT hZ (hw _ (List.mem_of_getElem? (i := 2) rfl))) (mvT hZ (hw _ (List.mem_of_getElem? (i := 3) rfl))) (mvT hZ (hw _ (List.mem_of_getElem? (i := 4) rfl))) (mvT hZ (hw _ (List.mem_of_getElem? (i := 5) rfl))) (by decide) (backOf (W := 0) (rm1a l Z a0 hw [] b79 (0 : Int32) (Int32.ofNat kk) 4 (fun _ => 0) 0 h79 n0 Z79 A79 gb79 rfl (by decide)) hZ (hw _ (List.mem_of_getElem? (i := 5) rfl)) (hw _ (List.mem_of_getElem? (i := 4) rfl)) (by decide) (by decide)) (g := (mkF m 34 #[.val (.int p0), .val (.int p1), .val (.int (4 : Int32)), .val (.int (15 : Int32)), .val (.int (Int32.ofNat kk)), .val (.ref b79), .unset, .unset, .unset] [(.int (Int32.ofNat kk)), (.int (0 : Int32)), (.ref b79)])) rfl (by rw [hml]; rfl) (argsL := [(.ref b79), (.int (0 : Int32)), (.int (Int32.ofNat kk))]) (rest := []) (lenOf pd_0 rfl) rfl (by show 2 * 0 + _ ≤ _; exact Nat.le_of_eq rfl) (hb hby at_34) (fun _ _ => ⟨rfl, e79, (by decide : 1 + 0 ≤ _), (by decide : 4 + 0 ≤ _)⟩)
    dsimp only [Pt.U, Pt.locs, Pt.cells, Pt.slots] at X80 l80 y80 z80 st80 hQ80
    subst l80 y80 z80
    obtain ⟨h80, e80⟩ : ∃ z, T80.heap = z := ⟨_, rfl⟩
    rw [e80] at hQ80
    obtain ⟨rfl, N80q, Kq80, G80_0⟩ := hQ80
    have N80 := Fr.app N0 N80q
    have K80 := Keep.trans K79 Kq80 (allS (Or.inr sb79) all0)
    have Z80 := Nat.le_trans Z79 Kq80.1
    refine Goes.go st80 ?_
    show Goes p e below s _ _ _ (T80.setTop (mkF m 37 #[.val (.int p0), .val (.int p1), .val (.int (4 : Int32)), .val (.int (15 : Int32)), .val (.int (Int32.ofNat kk)), .val (.ref b79), .unset, .unset, .unset] []))
    refine Goes.go (fun _ kst => XS.aload X80.here hx rfl (hb hby at_37) rfl rfl  kst) ?_
    show Goes p e below s _ _ _ (T80.setTop (mkF m 39 #[.val (.int p0), .val (.int p1), .val (.int (4 : Int32)), .val (.int (15 : Int32)), .val (.int (Int32.ofNat kk)), .val (.ref b79), .unset, .unset, .unset] [(.ref b79)]))
    refine Goes.go (fun _ kst => XS.iconst X80.here hx rfl (hb hby at_39) kst) ?_
    show Goes p e below s _ _ _ (T80.setTop (mkF m 40 #[.val (.int p0), .val (.int p1), .val (.int (4 : Int32)), .val (.int (15 : Int32)), .val (.int (Int32.ofNat kk)), .val (.ref b79), .unset, .unset, .unset] [(.int (1 : Int32)), (.ref b79)]))
    refine Goes.go (fun _ kst => XS.iload X80.here hx rfl (hb hby at_40) rfl  kst) ?_
    show Goes p e below s _ _ _ (T80.setTop (mkF m 42 #[.val (.int p0), .val (.int p1), .val (.int (4 : Int32)), .val (.int (15 : Int32)), .val (.int (Int32.ofNat kk)), .val (.ref b79), .unset, .unset, .unset] [(.int (Int32.ofNat kk)), (.int (1 : Int32)), (.ref b79)]))
    obtain ⟨_, _, ⟨T81, L81, k81, n81⟩, -, X81, ⟨Lc81, hQ81, l81, y81, z81⟩, st81⟩ := Jvm.LawKit.callS X80 hx (y := (⟨"com/example/surety/surety/DecompositionAdvancePinLaw", "set", "([ZII)V"⟩ : MethodName)) hown (mvT hZ (hw _ (List.mem_of_getElem? (i := 2) rfl))) (mvT hZ (hw _ (List.mem_of_getElem? (i := 3) rfl))) (mvT hZ (hw _ (List.mem_of_getElem? (i := 4) rfl))) (mvT hZ (hw _ (List.mem_of_getElem? (i := 5) rfl))) (by decide) (backOf (W := 0) (rm1a l Z a0 hw [] b79 (1 : Int32) (Int32.ofNat kk) 4 (own_upd (fun _ => 0) 0 (nar .boolean (if (((Int32.ofNat kk) >>> ((0 : Int32) &&& 31)) &&& (1 : Int32)) = (0 : Int32) then (0 : Int32) else (1 : Int32)))) 1 h80 n0 Z80 G80_0 gb79 rfl (by decide)) hZ (hw _ (List.mem_of_getElem? (i := 5) rfl)) (hw _ (List.mem_of_getElem? (i := 4) rfl)) (by decide) (by decide)) (g := (mkF m 42 #[.val (.int p0), .val (.int p1), .val (.int (4 : Int32)), .val (.int (15 : Int32)), .val (.int (Int32.ofNat kk)), .val (.ref b79), .unset, .unset, .unset] [(.int (Int32.ofNat kk)), (.int (1 : Int32)), (.ref b79)])) rfl (by rw [hml]; rfl) (argsL := [(.ref b79), (.int (1 : Int32)), (.int (Int32.ofNat kk))]) (rest := []) (lenOf pd_0 rfl) rfl (by show 2 * 0 + _ ≤ _; exact Nat.le_of_eq rfl) (hb hby at_42) (fun _ _ => ⟨rfl, e80, (by decide : 1 + 0 ≤ _), (by decide : 4 + 0 ≤ _)⟩)
    dsimp only [Pt.U, Pt.locs, Pt.cells, Pt.slots] at X81 l81 y81 z81 st81 hQ81
    subst l81 y81 z81
    obtain ⟨h81, e81⟩ : ∃ z, T81.heap = z := ⟨_, rfl⟩
    rw [e81] at hQ81
    obtain ⟨rfl, N81q, Kq81, G81_0⟩ := hQ81
    have N81 := Fr.app N80 N81q
    have K81 := Keep.trans K80 Kq81 (allS (Or.inr sb79) all0)
    have Z81 := Nat.le_trans Z80 Kq81.1
    refine Goes.go st81 ?_
    show Goes p e below s _ _ _ (T81.setTop (mkF m 45 #[.val (.int p0), .val (.int p1), .val (.int (4 : Int32)), .val (.int (15 : Int32)), .val (.int (Int32.ofNat kk)), .val (.ref b79), .unset, .unset, .unset] []))
    refine Goes.go (fun _ kst => XS.aload X81.here hx rfl (hb hby at_45) rfl rfl  kst) ?_
    show Goes p e below s _ _ _ (T81.setTop (mkF m 47 #[.val (.int p0), .val (.int p1), .val (.int (4 : Int32)), .val (.int (15 : Int32)), .val (.int (Int32.ofNat kk)), .val (.ref b79), .unset, .unset, .unset] [(.ref b79)]))
    refine Goes.go (fun _ kst => XS.iconst X81.here hx rfl (hb hby at_47) kst) ?_
    show Goes p e below s _ _ _ (T81.setTop (mkF m 48 #[.val (.int p0), .val (.int p1), .val (.int (4 : Int32)), .val (.int (15 : Int32)), .val (.int (Int32.ofNat kk)), .val (.ref b79), .unset, .unset, .unset] [(.int (2 : Int32)), (.ref b79)]))
    refine Goes.go (fun _ kst => XS.iload X81.here hx rfl (hb hby at_48) rfl  kst) ?_
    show Goes p e below s _ _ _ (T81.setTop (mkF m 50 #[.val (.int p0), .val (.int p1), .val (.int (4 : Int32)), .val (.int (15 : Int32)), .val (.int (Int32.ofNat kk)), .val (.ref b79), .unset, .unset, .unset] [(.int (Int32.ofNat kk)), (.int (2 : Int32)), (.ref b79)]))
    obtain ⟨_, _, ⟨T82, L82, k82, n82⟩, -, X82, ⟨Lc82, hQ82, l82, y82, z82⟩, st82⟩ := Jvm.LawKit.callS X81 hx (y := (⟨"com/example/surety/surety/DecompositionAdvancePinLaw", "set", "([ZII)V"⟩ : MethodName)) hown (mvT hZ (hw _ (List.mem_of_getElem? (i := 2) rfl))) (mvT hZ (hw _ (List.mem_of_getElem? (i := 3) rfl))) (mvT hZ (hw _ (List.mem_of_getElem? (i := 4) rfl))) (mvT hZ (hw _ (List.mem_of_getElem? (i := 5) rfl))) (by decide) (backOf (W := 0) (rm1a l Z a0 hw [] b79 (2 : Int32) (Int32.ofNat kk) 4 (own_upd (own_upd (fun _ => 0) 0 (nar .boolean (if (((Int32.ofNat kk) >>> ((0 : Int32) &&& 31)) &&& (1 : Int32)) = (0 : Int32) then (0 : Int32) else (1 : Int32)))) 1 (nar .boolean (if (((Int32.ofNat kk) >>> ((1 : Int32) &&& 31)) &&& (1 : Int32)) = (0 : Int32) then (0 : Int32) else (1 : Int32)))) 2 h81 n0 Z81 G81_0 gb79 rfl (by decide)) hZ (hw _ (List.mem_of_getElem? (i := 5) rfl)) (hw _ (List.mem_of_getElem? (i := 4) rfl)) (by decide) (by decide)) (g := (mkF m 50 #[.val (.int p0), .val (.int p1), .val (.int (4 : Int32)), .val (.int (15 : Int32)), .val (.int (Int32.ofNat kk)), .val (.ref b79), .unset, .unset, .unset] [(.int (Int32.ofNat kk)), (.int (2 : Int32)), (.ref b79)])) rfl (by rw [hml]; rfl) (argsL := [(.ref b79), (.int (2 : Int32)), (.int (Int32.ofNat kk))]) (rest := []) (lenOf pd_0 rfl) rfl (by show 2 * 0 + _ ≤ _; exact Nat.le_of_eq rfl) (hb hby at_50) (fun _ _ => ⟨rfl, e81, (by decide : 1 + 0 ≤ _), (by decide : 4 + 0 ≤ _)⟩)
    dsimp only [Pt.U, Pt.locs, Pt.cells, Pt.slots] at X82 l82 y82 z82 st82 hQ82
    subst l82 y82 z82
    obtain ⟨h82, e82⟩ : ∃ z, T82.heap = z := ⟨_, rfl⟩
    rw [e82] at hQ82
    obtain ⟨rfl, N82q, Kq82, G82_0⟩ := hQ82
    have N82 := Fr.app N81 N82q
    have K82 := Keep.trans K81 Kq82 (allS (Or.inr sb79) all0)
    have Z82 := Nat.le_trans Z81 Kq82.1
    refine Goes.go st82 ?_
    show Goes p e below s _ _ _ (T82.setTop (mkF m 53 #[.val (.int p0), .val (.int p1), .val (.int (4 : Int32)), .val (.int (15 : Int32)), .val (.int (Int32.ofNat kk)), .val (.ref b79), .unset, .unset, .unset] []))
    refine Goes.go (fun _ kst => XS.aload X82.here hx rfl (hb hby at_53) rfl rfl  kst) ?_
    show Goes p e below s _ _ _ (T82.setTop (mkF m 55 #[.val (.int p0), .val (.int p1), .val (.int (4 : Int32)), .val (.int (15 : Int32)), .val (.int (Int32.ofNat kk)), .val (.ref b79), .unset, .unset, .unset] [(.ref b79)]))
    refine Goes.go (fun _ kst => XS.iconst X82.here hx rfl (hb hby at_55) kst) ?_
    show Goes p e below s _ _ _ (T82.setTop (mkF m 56 #[.val (.int p0), .val (.int p1), .val (.int (4 : Int32)), .val (.int (15 : Int32)), .val (.int (Int32.ofNat kk)), .val (.ref b79), .unset, .unset, .unset] [(.int (3 : Int32)), (.ref b79)]))
    refine Goes.go (fun _ kst => XS.iload X82.here hx rfl (hb hby at_56) rfl  kst) ?_
    show Goes p e below s _ _ _ (T82.setTop (mkF m 58 #[.val (.int p0), .val (.int p1), .val (.int (4 : Int32)), .val (.int (15 : Int32)), .val (.int (Int32.ofNat kk)), .val (.ref b79), .unset, .unset, .unset] [(.int (Int32.ofNat kk)), (.int (3 : Int32)), (.ref b79)]))
    obtain ⟨_, _, ⟨T83, L83, k83, n83⟩, -, X83, ⟨Lc83, hQ83, l83, y83, z83⟩, st83⟩ := Jvm.LawKit.callS X82 hx (y := (⟨"com/example/surety/surety/DecompositionAdvancePinLaw", "set", "([ZII)V"⟩ : MethodName)) hown (mvT hZ (hw _ (List.mem_of_getElem? (i := 2) rfl))) (mvT hZ (hw _ (List.mem_of_getElem? (i := 3) rfl))) (mvT hZ (hw _ (List.mem_of_getElem? (i := 4) rfl))) (mvT hZ (hw _ (List.mem_of_getElem? (i := 5) rfl))) (by decide) (backOf (W := 0) (rm1a l Z a0 hw [] b79 (3 : Int32) (Int32.ofNat kk) 4 (own_upd (own_upd (own_upd (fun _ => 0) 0 (nar .boolean (if (((Int32.ofNat kk) >>> ((0 : Int32) &&& 31)) &&& (1 : Int32)) = (0 : Int32) then (0 : Int32) else (1 : Int32)))) 1 (nar .boolean (if (((Int32.ofNat kk) >>> ((1 : Int32) &&& 31)) &&& (1 : Int32)) = (0 : Int32) then (0 : Int32) else (1 : Int32)))) 2 (nar .boolean (if (((Int32.ofNat kk) >>> ((2 : Int32) &&& 31)) &&& (1 : Int32)) = (0 : Int32) then (0 : Int32) else (1 : Int32)))) 3 h82 n0 Z82 G82_0 gb79 rfl (by decide)) hZ (hw _ (List.mem_of_getElem? (i := 5) rfl)) (hw _ (List.mem_of_getElem? (i := 4) rfl)) (by decide) (by decide)) (g := (mkF m 58 #[.val (.int p0), .val (.int p1), .val (.int (4 : Int32)), .val (.int (15 : Int32)), .val (.int (Int32.ofNat kk)), .val (.ref b79), .unset, .unset, .unset] [(.int (Int32.ofNat kk)), (.int (3 : Int32)), (.ref b79)])) rfl (by rw [hml]; rfl) (argsL := [(.ref b79), (.int (3 : Int32)), (.int (Int32.ofNat kk))]) (rest := []) (lenOf pd_0 rfl) rfl (by show 2 * 0 + _ ≤ _; exact Nat.le_of_eq rfl) (hb hby at_58) (fun _ _ => ⟨rfl, e82, (by decide : 1 + 0 ≤ _), (by decide : 4 + 0 ≤ _)⟩)
    dsimp only [Pt.U, Pt.locs, Pt.cells, Pt.slots] at X83 l83 y83 z83 st83 hQ83
    subst l83 y83 z83
    obtain ⟨h83, e83⟩ : ∃ z, T83.heap = z := ⟨_, rfl⟩
    rw [e83] at hQ83
    obtain ⟨rfl, N83q, Kq83, G83_0⟩ := hQ83
    have N83 := Fr.app N82 N83q
    have K83 := Keep.trans K82 Kq83 (allS (Or.inr sb79) all0)
    have Z83 := Nat.le_trans Z82 Kq83.1
    refine Goes.go st83 ?_
    show Goes p e below s _ _ _ (T83.setTop (mkF m 61 #[.val (.int p0), .val (.int p1), .val (.int (4 : Int32)), .val (.int (15 : Int32)), .val (.int (Int32.ofNat kk)), .val (.ref b79), .unset, .unset, .unset] []))
    refine Goes.go (fun _ kst => XS.aload X83.here hx rfl (hb hby at_61) rfl rfl  kst) ?_
    show Goes p e below s _ _ _ (T83.setTop (mkF m 63 #[.val (.int p0), .val (.int p1), .val (.int (4 : Int32)), .val (.int (15 : Int32)), .val (.int (Int32.ofNat kk)), .val (.ref b79), .unset, .unset, .unset] [(.ref b79)]))
    refine Goes.go (fun _ kst => XS.iconst X83.here hx rfl (hb hby at_63) kst) ?_
    show Goes p e below s _ _ _ (T83.setTop (mkF m 64 #[.val (.int p0), .val (.int p1), .val (.int (4 : Int32)), .val (.int (15 : Int32)), .val (.int (Int32.ofNat kk)), .val (.ref b79), .unset, .unset, .unset] [(.int (4 : Int32)), (.ref b79)]))
    refine Goes.go (fun _ kst => XS.iload X83.here hx rfl (hb hby at_64) rfl  kst) ?_
    show Goes p e below s _ _ _ (T83.setTop (mkF m 66 #[.val (.int p0), .val (.int p1), .val (.int (4 : Int32)), .val (.int (15 : Int32)), .val (.int (Int32.ofNat kk)), .val (.ref b79), .unset, .unset, .unset] [(.int (Int32.ofNat kk)), (.int (4 : Int32)), (.ref b79)]))
    obtain ⟨_, _, ⟨T84, L84, k84, n84⟩, -, X84, ⟨Lc84, hQ84, l84, y84, z84⟩, st84⟩ := Jvm.LawKit.callS X83 hx (y := (⟨"com/example/surety/surety/DecompositionAdvancePinLaw", "set", "([ZII)V"⟩ : MethodName)) hown (mvT hZ (hw _ (List.mem_of_getElem? (i := 2) rfl))) (mvT hZ (hw _ (List.mem_of_getElem? (i := 3) rfl))) (mvT hZ (hw _ (List.mem_of_getElem? (i := 4) rfl))) (mvT hZ (hw _ (List.mem_of_getElem? (i := 5) rfl))) (by decide) (backOf (W := 0) (rm1b l Z a0 hw [] b79 (4 : Int32) (Int32.ofNat kk) 4 (own_upd (own_upd (own_upd (own_upd (fun _ => 0) 0 (nar .boolean (if (((Int32.ofNat kk) >>> ((0 : Int32) &&& 31)) &&& (1 : Int32)) = (0 : Int32) then (0 : Int32) else (1 : Int32)))) 1 (nar .boolean (if (((Int32.ofNat kk) >>> ((1 : Int32) &&& 31)) &&& (1 : Int32)) = (0 : Int32) then (0 : Int32) else (1 : Int32)))) 2 (nar .boolean (if (((Int32.ofNat kk) >>> ((2 : Int32) &&& 31)) &&& (1 : Int32)) = (0 : Int32) then (0 : Int32) else (1 : Int32)))) 3 (nar .boolean (if (((Int32.ofNat kk) >>> ((3 : Int32) &&& 31)) &&& (1 : Int32)) = (0 : Int32) then (0 : Int32) else (1 : Int32)))) 4 h83 n0 Z83 G83_0 gb79 rfl (by decide) (by decide)) hZ (hw _ (List.mem_of_getElem? (i := 5) rfl)) (hw _ (List.mem_of_getElem? (i := 4) rfl)) (by decide) (by decide)) (g := (mkF m 66 #[.val (.int p0), .val (.int p1), .val (.int (4 : Int32)), .val (.int (15 : Int32)), .val (.int (Int32.ofNat kk)), .val (.ref b79), .unset, .unset, .unset] [(.int (Int32.ofNat kk)), (.int (4 : Int32)), (.ref b79)])) rfl (by rw [hml]; rfl) (argsL := [(.ref b79), (.int (4 : Int32)), (.int (Int32.ofNat kk))]) (rest := []) (lenOf pd_0 rfl) rfl (by show 2 * 0 + _ ≤ _; exact Nat.le_of_eq rfl) (hb hby at_66) (fun _ _ => ⟨rfl, e83, (by decide : 1 + 0 ≤ _), (by decide : 4 + 0 ≤ _)⟩)
    dsimp only [Pt.U, Pt.locs, Pt.cells, Pt.slots] at X84 l84 y84 z84 st84 hQ84
    subst l84 y84 z84
    obtain ⟨rfl, N84q, e84⟩ := hQ84
    have N84 := Fr.app N83 N84q
    refine Goes.go st84 ?_
    show Goes p e below s _ _ _ (T84.setTop (mkF m 69 #[.val (.int p0), .val (.int p1), .val (.int (4 : Int32)), .val (.int (15 : Int32)), .val (.int (Int32.ofNat kk)), .val (.ref b79), .unset, .unset, .unset] []))
    refine Goes.go (fun _ kst => XS.aload X84.here hx rfl (hb hby at_69) rfl rfl  kst) ?_
    show Goes p e below s _ _ _ (T84.setTop (mkF m 71 #[.val (.int p0), .val (.int p1), .val (.int (4 : Int32)), .val (.int (15 : Int32)), .val (.int (Int32.ofNat kk)), .val (.ref b79), .unset, .unset, .unset] [(.ref b79)]))
    refine Goes.go (fun _ kst => XS.iconst X84.here hx rfl (hb hby at_71) kst) ?_
    show Goes p e below s _ _ _ (T84.setTop (mkF m 72 #[.val (.int p0), .val (.int p1), .val (.int (4 : Int32)), .val (.int (15 : Int32)), .val (.int (Int32.ofNat kk)), .val (.ref b79), .unset, .unset, .unset] [(.int (5 : Int32)), (.ref b79)]))
    refine Goes.go (fun _ kst => XS.iload X84.here hx rfl (hb hby at_72) rfl  kst) ?_
    show Goes p e below s _ _ _ (T84.setTop (mkF m 74 #[.val (.int p0), .val (.int p1), .val (.int (4 : Int32)), .val (.int (15 : Int32)), .val (.int (Int32.ofNat kk)), .val (.ref b79), .unset, .unset, .unset] [(.int (Int32.ofNat kk)), (.int (5 : Int32)), (.ref b79)]))
    obtain ⟨_, _, ⟨T85, L85, k85, n85⟩, -, X85, ⟨Lc85, hQ85, l85, y85, z85⟩, st85⟩ := Jvm.LawKit.callS X84 hx (y := (⟨"com/example/surety/surety/DecompositionAdvancePinLaw", "set", "([ZII)V"⟩ : MethodName)) hown (mvT hZ (hw _ (List.mem_of_getElem? (i := 2) rfl))) (mvT hZ (hw _ (List.mem_of_getElem? (i := 3) rfl))) (mvT hZ (hw _ (List.mem_of_getElem? (i := 4) rfl))) (mvT hZ (hw _ (List.mem_of_getElem? (i := 5) rfl))) (by decide) (backOf (W := 0) (rm1b l Z a0 hw [] b79 (5 : Int32) (Int32.ofNat kk) 4 (own_upd (own_upd (own_upd (own_upd (fun _ => 0) 0 (nar .boolean (if (((Int32.ofNat kk) >>> ((0 : Int32) &&& 31)) &&& (1 : Int32)) = (0 : Int32) then (0 : Int32) else (1 : Int32)))) 1 (nar .boolean (if (((Int32.ofNat kk) >>> ((1 : Int32) &&& 31)) &&& (1 : Int32)) = (0 : Int32) then (0 : Int32) else (1 : Int32)))) 2 (nar .boolean (if (((Int32.ofNat kk) >>> ((2 : Int32) &&& 31)) &&& (1 : Int32)) = (0 : Int32) then (0 : Int32) else (1 : Int32)))) 3 (nar .boolean (if (((Int32.ofNat kk) >>> ((3 : Int32) &&& 31)) &&& (1 : Int32)) = (0 : Int32) then (0 : Int32) else (1 : Int32)))) 5 h83 n0 Z83 G83_0 gb79 rfl (by decide) (by decide)) hZ (hw _ (List.mem_of_getElem? (i := 5) rfl)) (hw _ (List.mem_of_getElem? (i := 4) rfl)) (by decide) (by decide)) (g := (mkF m 74 #[.val (.int p0), .val (.int p1), .val (.int (4 : Int32)), .val (.int (15 : Int32)), .val (.int (Int32.ofNat kk)), .val (.ref b79), .unset, .unset, .unset] [(.int (Int32.ofNat kk)), (.int (5 : Int32)), (.ref b79)])) rfl (by rw [hml]; rfl) (argsL := [(.ref b79), (.int (5 : Int32)), (.int (Int32.ofNat kk))]) (rest := []) (lenOf pd_0 rfl) rfl (by show 2 * 0 + _ ≤ _; exact Nat.le_of_eq rfl) (hb hby at_74) (fun _ _ => ⟨rfl, e84, (by decide : 1 + 0 ≤ _), (by decide : 4 + 0 ≤ _)⟩)
    dsimp only [Pt.U, Pt.locs, Pt.cells, Pt.slots] at X85 l85 y85 z85 st85 hQ85
    subst l85 y85 z85
    obtain ⟨rfl, N85q, e85⟩ := hQ85
    have N85 := Fr.app N84 N85q
    refine Goes.go st85 ?_
    have An86 := G83_0
    generalize hv_vv : (own_upd (own_upd (own_upd (own_upd (fun _ => 0) 0 (nar .boolean (if (((Int32.ofNat kk) >>> ((0 : Int32) &&& 31)) &&& (1 : Int32)) = (0 : Int32) then (0 : Int32) else (1 : Int32)))) 1 (nar .boolean (if (((Int32.ofNat kk) >>> ((1 : Int32) &&& 31)) &&& (1 : Int32)) = (0 : Int32) then (0 : Int32) else (1 : Int32)))) 2 (nar .boolean (if (((Int32.ofNat kk) >>> ((2 : Int32) &&& 31)) &&& (1 : Int32)) = (0 : Int32) then (0 : Int32) else (1 : Int32)))) 3 (nar .boolean (if (((Int32.ofNat kk) >>> ((3 : Int32) &&& 31)) &&& (1 : Int32)) = (0 : Int32) then (0 : Int32) else (1 : Int32)))) = vv at An86 hfz hall gg0 gg1 gg2 gg3 gg4 gg5
    show Goes p e below s _ _ _ (T85.setTop (mkF m 77 #[.val (.int p0), .val (.int p1), .val (.int (4 : Int32)), .val (.int (15 : Int32)), .val (.int (Int32.ofNat kk)), .val (.ref b79), .unset, .unset, .unset] []))
    refine Goes.go (fun _ kst => XS.aload X85.here hx rfl (hb hby at_77) rfl rfl  kst) ?_
    show Goes p e below s _ _ _ (T85.setTop (mkF m 79 #[.val (.int p0), .val (.int p1), .val (.int (4 : Int32)), .val (.int (15 : Int32)), .val (.int (Int32.ofNat kk)), .val (.ref b79), .unset, .unset, .unset] [(.ref b79)]))
    obtain ⟨_, _, ⟨T87, L87, k87, n87⟩, -, X87, ⟨Lc87, hQ87, l87, y87, z87⟩, st87⟩ := Jvm.LawKit.callS X85 hx (y := (⟨"com/example/surety/surety/Decomposition", "advance", "([Z)Z"⟩ : MethodName)) hown (mvT hZ (hw _ (List.mem_of_getElem? (i := 6) rfl))) (mvT hZ (hw _ (List.mem_of_getElem? (i := 7) rfl))) (mvT hZ (hw _ (List.mem_of_getElem? (i := 8) rfl))) (mvT hZ (hw _ (List.mem_of_getElem? (i := 9) rfl))) (by decide) (backOf (W := 0) (rm2 l Z a0 hw [] b79 4 vv h83 n0 Z83 An86 gb79 hfz) hZ (hw _ (List.mem_of_getElem? (i := 9) rfl)) (hw _ (List.mem_of_getElem? (i := 8) rfl)) (by decide) (by decide)) (g := (mkF m 79 #[.val (.int p0), .val (.int p1), .val (.int (4 : Int32)), .val (.int (15 : Int32)), .val (.int (Int32.ofNat kk)), .val (.ref b79), .unset, .unset, .unset] [(.ref b79)])) rfl (by rw [hml]; rfl) (argsL := [(.ref b79)]) (rest := []) (lenOf pd_1 rfl) rfl (by show 2 * 0 + _ ≤ _; exact Nat.le_of_eq rfl) (hb hby at_79) (fun _ _ => ⟨rfl, e85, (by decide : 1 + 0 ≤ _), (by decide : 4 + 0 ≤ _)⟩)
    dsimp only [Pt.U, Pt.locs, Pt.cells, Pt.slots] at X87 l87 y87 z87 st87 hQ87
    subst l87 y87 z87
    obtain ⟨h87, e87⟩ : ∃ z, T87.heap = z := ⟨_, rfl⟩
    rw [e87] at hQ87
    obtain ⟨rfl, N87q, Kq87, A87⟩ := hQ87
    have N87 := Fr.app N85 N87q
    have K87 := Keep.trans K83 Kq87 (allS (Or.inr sb79) all0)
    have Z87 := Nat.le_trans Z83 Kq87.1
    refine Goes.go st87 ?_
    show Goes p e below s _ _ _ (T87.setTop (mkF m 82 #[.val (.int p0), .val (.int p1), .val (.int (4 : Int32)), .val (.int (15 : Int32)), .val (.int (Int32.ofNat kk)), .val (.ref b79), .unset, .unset, .unset] [(.int (own_all (own_W vv 4) 4 0))]))
    refine Goes.go (fun _ kst => XS.istore X87.here hx rfl (hb hby at_82) rfl (l' := #[.val (.int p0), .val (.int p1), .val (.int (4 : Int32)), .val (.int (15 : Int32)), .val (.int (Int32.ofNat kk)), .val (.ref b79), .val (.int (own_all (own_W vv 4) 4 0)), .unset, .unset]) rfl kst) ?_
    show Goes p e below s _ _ _ (T87.setTop (mkF m 84 #[.val (.int p0), .val (.int p1), .val (.int (4 : Int32)), .val (.int (15 : Int32)), .val (.int (Int32.ofNat kk)), .val (.ref b79), .val (.int (own_all (own_W vv 4) 4 0)), .unset, .unset] []))
    refine Goes.go (fun _ kst => XS.iload X87.here hx rfl (hb hby at_84) rfl  kst) ?_
    show Goes p e below s _ _ _ (T87.setTop (mkF m 86 #[.val (.int p0), .val (.int p1), .val (.int (4 : Int32)), .val (.int (15 : Int32)), .val (.int (Int32.ofNat kk)), .val (.ref b79), .val (.int (own_all (own_W vv 4) 4 0)), .unset, .unset] [(.int (Int32.ofNat kk))]))
    refine Goes.go (fun _ kst => XS.iconst X87.here hx rfl (hb hby at_86) kst) ?_
    show Goes p e below s _ _ _ (T87.setTop (mkF m 87 #[.val (.int p0), .val (.int p1), .val (.int (4 : Int32)), .val (.int (15 : Int32)), .val (.int (Int32.ofNat kk)), .val (.ref b79), .val (.int (own_all (own_W vv 4) 4 0)), .unset, .unset] [(.int (1 : Int32)), (.int (Int32.ofNat kk))]))
    refine Goes.go (fun _ kst => XS.iadd X87.here hx rfl (hb hby at_87) rfl kst) ?_
    show Goes p e below s _ _ _ (T87.setTop (mkF m 88 #[.val (.int p0), .val (.int p1), .val (.int (4 : Int32)), .val (.int (15 : Int32)), .val (.int (Int32.ofNat kk)), .val (.ref b79), .val (.int (own_all (own_W vv 4) 4 0)), .unset, .unset] [(.int ((Int32.ofNat kk) + (1 : Int32)))]))
    refine Goes.go (fun _ kst => XS.istore X87.here hx rfl (hb hby at_88) rfl (l' := #[.val (.int p0), .val (.int p1), .val (.int (4 : Int32)), .val (.int (15 : Int32)), .val (.int (Int32.ofNat kk)), .val (.ref b79), .val (.int (own_all (own_W vv 4) 4 0)), .val (.int ((Int32.ofNat kk) + (1 : Int32))), .unset]) rfl kst) ?_
    show Goes p e below s _ _ _ (T87.setTop (mkF m 90 #[.val (.int p0), .val (.int p1), .val (.int (4 : Int32)), .val (.int (15 : Int32)), .val (.int (Int32.ofNat kk)), .val (.ref b79), .val (.int (own_all (own_W vv 4) 4 0)), .val (.int ((Int32.ofNat kk) + (1 : Int32))), .unset] []))
    refine Goes.go (fun _ kst => XS.aload X87.here hx rfl (hb hby at_90) rfl rfl  kst) ?_
    show Goes p e below s _ _ _ (T87.setTop (mkF m 92 #[.val (.int p0), .val (.int p1), .val (.int (4 : Int32)), .val (.int (15 : Int32)), .val (.int (Int32.ofNat kk)), .val (.ref b79), .val (.int (own_all (own_W vv 4) 4 0)), .val (.int ((Int32.ofNat kk) + (1 : Int32))), .unset] [(.ref b79)]))
    refine Goes.go (own_len X87 hx hZ e87 A87 (g := (mkF m 92 #[.val (.int p0), .val (.int p1), .val (.int (4 : Int32)), .val (.int (15 : Int32)), .val (.int (Int32.ofNat kk)), .val (.ref b79), .val (.int (own_all (own_W vv 4) 4 0)), .val (.int ((Int32.ofNat kk) + (1 : Int32))), .unset] [(.ref b79)])) rfl rfl (hb hby at_92)) ?_
    show Goes p e below s _ _ _ (T87.setTop (mkF m 93 #[.val (.int p0), .val (.int p1), .val (.int (4 : Int32)), .val (.int (15 : Int32)), .val (.int (Int32.ofNat kk)), .val (.ref b79), .val (.int (own_all (own_W vv 4) 4 0)), .val (.int ((Int32.ofNat kk) + (1 : Int32))), .unset] [(.int (4 : Int32))]))
    refine Goes.go (fun _ kst => XS.iloadN X87.here hx rfl (hb hby at_93) rfl  kst) ?_
    show Goes p e below s _ _ _ (T87.setTop (mkF m 94 #[.val (.int p0), .val (.int p1), .val (.int (4 : Int32)), .val (.int (15 : Int32)), .val (.int (Int32.ofNat kk)), .val (.ref b79), .val (.int (own_all (own_W vv 4) 4 0)), .val (.int ((Int32.ofNat kk) + (1 : Int32))), .unset] [(.int (4 : Int32)), (.int (4 : Int32))]))
    have hc94_88 : (4 : Int32) = (4 : Int32) := (by decide)
    refine Goes.go (fun _ kst => XS.icmpNo X87.here hx rfl (hb hby at_94) rfl (teq hc94_88).2 kst) ?_
    show Goes p e below s _ _ _ (T87.setTop (mkF m 97 #[.val (.int p0), .val (.int p1), .val (.int (4 : Int32)), .val (.int (15 : Int32)), .val (.int (Int32.ofNat kk)), .val (.ref b79), .val (.int (own_all (own_W vv 4) 4 0)), .val (.int ((Int32.ofNat kk) + (1 : Int32))), .unset] []))
    refine Goes.go (fun _ kst => XS.iload X87.here hx rfl (hb hby at_97) rfl  kst) ?_
    show Goes p e below s _ _ _ (T87.setTop (mkF m 99 #[.val (.int p0), .val (.int p1), .val (.int (4 : Int32)), .val (.int (15 : Int32)), .val (.int (Int32.ofNat kk)), .val (.ref b79), .val (.int (own_all (own_W vv 4) 4 0)), .val (.int ((Int32.ofNat kk) + (1 : Int32))), .unset] [(.int (own_all (own_W vv 4) 4 0))]))
    refine Goes.go (fun _ kst => XS.iload X87.here hx rfl (hb hby at_99) rfl  kst) ?_
    show Goes p e below s _ _ _ (T87.setTop (mkF m 101 #[.val (.int p0), .val (.int p1), .val (.int (4 : Int32)), .val (.int (15 : Int32)), .val (.int (Int32.ofNat kk)), .val (.ref b79), .val (.int (own_all (own_W vv 4) 4 0)), .val (.int ((Int32.ofNat kk) + (1 : Int32))), .unset] [(.int ((Int32.ofNat kk) + (1 : Int32))), (.int (own_all (own_W vv 4) 4 0))]))
    refine Goes.go (fun _ kst => XS.iloadN X87.here hx rfl (hb hby at_101) rfl  kst) ?_
    show Goes p e below s _ _ _ (T87.setTop (mkF m 102 #[.val (.int p0), .val (.int p1), .val (.int (4 : Int32)), .val (.int (15 : Int32)), .val (.int (Int32.ofNat kk)), .val (.ref b79), .val (.int (own_all (own_W vv 4) 4 0)), .val (.int ((Int32.ofNat kk) + (1 : Int32))), .unset] [(.int (15 : Int32)), (.int ((Int32.ofNat kk) + (1 : Int32))), (.int (own_all (own_W vv 4) 4 0))]))
    obtain ⟨z89_s0, hz89_s0⟩ : ∃ z : Int32, z = if ((Int32.ofNat kk) + (1 : Int32)) = (15 : Int32) then (0 : Int32) else (1 : Int32) := ⟨_, rfl⟩
    have sm89 : ∀ t, Steps p.tables e below (T87.setTop (mkF m 110 #[.val (.int p0), .val (.int p1), .val (.int (4 : Int32)), .val (.int (15 : Int32)), .val (.int (Int32.ofNat kk)), .val (.ref b79), .val (.int (own_all (own_W vv 4) 4 0)), .val (.int ((Int32.ofNat kk) + (1 : Int32))), .unset] [(.int z89_s0), (.int (own_all (own_W vv 4) 4 0))])) t → Steps p.tables e below (T87.setTop (mkF m 102 #[.val (.int p0), .val (.int p1), .val (.int (4 : Int32)), .val (.int (15 : Int32)), .val (.int (Int32.ofNat kk)), .val (.ref b79), .val (.int (own_all (own_W vv 4) 4 0)), .val (.int ((Int32.ofNat kk) + (1 : Int32))), .unset] [(.int (15 : Int32)), (.int ((Int32.ofNat kk) + (1 : Int32))), (.int (own_all (own_W vv 4) 4 0))])) t := by
      intro t kst
      by_cases hc102_89 : ((Int32.ofNat kk) + (1 : Int32)) = (15 : Int32)
      · have kst2 : Steps p.tables e below (T87.setTop (mkF m 110 #[.val (.int p0), .val (.int p1), .val (.int (4 : Int32)), .val (.int (15 : Int32)), .val (.int (Int32.ofNat kk)), .val (.ref b79), .val (.int (own_all (own_W vv 4) 4 0)), .val (.int ((Int32.ofNat kk) + (1 : Int32))), .unset] [(.int (0 : Int32)), (.int (own_all (own_W vv 4) 4 0))])) t := by simpa only [hz89_s0, if_pos hc102_89] using kst
        show Steps p.tables e below (T87.setTop (mkF m 102 #[.val (.int p0), .val (.int p1), .val (.int (4 : Int32)), .val (.int (15 : Int32)), .val (.int (Int32.ofNat kk)), .val (.ref b79), .val (.int (own_all (own_W vv 4) 4 0)), .val (.int ((Int32.ofNat kk) + (1 : Int32))), .unset] [(.int (15 : Int32)), (.int ((Int32.ofNat kk) + (1 : Int32))), (.int (own_all (own_W vv 4) 4 0))])) _
        refine XS.icmpYes X87.here hx rfl (pc0 := 102) (pc' := 109) rfl (hb hby at_102) rfl (teq hc102_89).1 (by decide) (by decide) ?_
        show Steps p.tables e below (T87.setTop (mkF m 109 #[.val (.int p0), .val (.int p1), .val (.int (4 : Int32)), .val (.int (15 : Int32)), .val (.int (Int32.ofNat kk)), .val (.ref b79), .val (.int (own_all (own_W vv 4) 4 0)), .val (.int ((Int32.ofNat kk) + (1 : Int32))), .unset] [(.int (own_all (own_W vv 4) 4 0))])) _
        refine XS.iconst X87.here hx rfl (hb hby at_109) ?_
        exact kst2
      · have kst2 : Steps p.tables e below (T87.setTop (mkF m 110 #[.val (.int p0), .val (.int p1), .val (.int (4 : Int32)), .val (.int (15 : Int32)), .val (.int (Int32.ofNat kk)), .val (.ref b79), .val (.int (own_all (own_W vv 4) 4 0)), .val (.int ((Int32.ofNat kk) + (1 : Int32))), .unset] [(.int (1 : Int32)), (.int (own_all (own_W vv 4) 4 0))])) t := by simpa only [hz89_s0, if_neg hc102_89] using kst
        show Steps p.tables e below (T87.setTop (mkF m 102 #[.val (.int p0), .val (.int p1), .val (.int (4 : Int32)), .val (.int (15 : Int32)), .val (.int (Int32.ofNat kk)), .val (.ref b79), .val (.int (own_all (own_W vv 4) 4 0)), .val (.int ((Int32.ofNat kk) + (1 : Int32))), .unset] [(.int (15 : Int32)), (.int ((Int32.ofNat kk) + (1 : Int32))), (.int (own_all (own_W vv 4) 4 0))])) _
        refine XS.icmpNo X87.here hx rfl (hb hby at_102) rfl (feq hc102_89).1 ?_
        show Steps p.tables e below (T87.setTop (mkF m 105 #[.val (.int p0), .val (.int p1), .val (.int (4 : Int32)), .val (.int (15 : Int32)), .val (.int (Int32.ofNat kk)), .val (.ref b79), .val (.int (own_all (own_W vv 4) 4 0)), .val (.int ((Int32.ofNat kk) + (1 : Int32))), .unset] [(.int (own_all (own_W vv 4) 4 0))])) _
        refine XS.iconst X87.here hx rfl (hb hby at_105) ?_
        show Steps p.tables e below (T87.setTop (mkF m 106 #[.val (.int p0), .val (.int p1), .val (.int (4 : Int32)), .val (.int (15 : Int32)), .val (.int (Int32.ofNat kk)), .val (.ref b79), .val (.int (own_all (own_W vv 4) 4 0)), .val (.int ((Int32.ofNat kk) + (1 : Int32))), .unset] [(.int (1 : Int32)), (.int (own_all (own_W vv 4) 4 0))])) _
        refine XS.goto X87.here hx rfl (pc0 := 106) (pc' := 110) rfl (hb hby at_106) (by decide) (by decide) ?_
        exact kst2
    refine Goes.go sm89 ?_
    show Goes p e below s _ _ _ (T87.setTop (mkF m 110 #[.val (.int p0), .val (.int p1), .val (.int (4 : Int32)), .val (.int (15 : Int32)), .val (.int (Int32.ofNat kk)), .val (.ref b79), .val (.int (own_all (own_W vv 4) 4 0)), .val (.int ((Int32.ofNat kk) + (1 : Int32))), .unset] [(.int z89_s0), (.int (own_all (own_W vv 4) 4 0))]))
    have hc110_90 : (own_all (own_W vv 4) 4 0) = z89_s0 := by rw [hz89_s0]; exact hall
    refine Goes.go (fun _ kst => XS.icmpNo X87.here hx rfl (hb hby at_110) rfl (teq hc110_90).2 kst) ?_
    show Goes p e below s _ _ _ (T87.setTop (mkF m 113 #[.val (.int p0), .val (.int p1), .val (.int (4 : Int32)), .val (.int (15 : Int32)), .val (.int (Int32.ofNat kk)), .val (.ref b79), .val (.int (own_all (own_W vv 4) 4 0)), .val (.int ((Int32.ofNat kk) + (1 : Int32))), .unset] []))
    refine Goes.go (fun _ kst => XS.iconst X87.here hx rfl (hb hby at_113) kst) ?_
    show Goes p e below s _ _ _ (T87.setTop (mkF m 114 #[.val (.int p0), .val (.int p1), .val (.int (4 : Int32)), .val (.int (15 : Int32)), .val (.int (Int32.ofNat kk)), .val (.ref b79), .val (.int (own_all (own_W vv 4) 4 0)), .val (.int ((Int32.ofNat kk) + (1 : Int32))), .unset] [(.int (1 : Int32))]))
    refine Goes.go (fun _ kst => XS.goto X87.here hx rfl (pc0 := 114) (pc' := 118) rfl (hb hby at_114) (by decide) (by decide) kst) ?_
    show Goes p e below s _ _ _ (T87.setTop (mkF m 118 #[.val (.int p0), .val (.int p1), .val (.int (4 : Int32)), .val (.int (15 : Int32)), .val (.int (Int32.ofNat kk)), .val (.ref b79), .val (.int (own_all (own_W vv 4) 4 0)), .val (.int ((Int32.ofNat kk) + (1 : Int32))), .unset] [(.int (1 : Int32))]))
    refine Goes.go (fun _ kst => XS.istore X87.here hx rfl (hb hby at_118) rfl (l' := #[.val (.int p0), .val (.int p1), .val (.int (4 : Int32)), .val (.int (15 : Int32)), .val (.int (Int32.ofNat kk)), .val (.ref b79), .val (.int (own_all (own_W vv 4) 4 0)), .val (.int ((Int32.ofNat kk) + (1 : Int32))), .val (.int (1 : Int32))]) rfl kst) ?_
    show Goes p e below s _ _ _ (T87.setTop (mkF m 120 #[.val (.int p0), .val (.int p1), .val (.int (4 : Int32)), .val (.int (15 : Int32)), .val (.int (Int32.ofNat kk)), .val (.ref b79), .val (.int (own_all (own_W vv 4) 4 0)), .val (.int ((Int32.ofNat kk) + (1 : Int32))), .val (.int (1 : Int32))] []))
    refine Goes.go (fun _ kst => XS.iload X87.here hx rfl (hb hby at_120) rfl  kst) ?_
    show Goes p e below s _ _ _ (T87.setTop (mkF m 122 #[.val (.int p0), .val (.int p1), .val (.int (4 : Int32)), .val (.int (15 : Int32)), .val (.int (Int32.ofNat kk)), .val (.ref b79), .val (.int (own_all (own_W vv 4) 4 0)), .val (.int ((Int32.ofNat kk) + (1 : Int32))), .val (.int (1 : Int32))] [(.int (1 : Int32))]))
    have hc122_91 : ¬ ((1 : Int32) = (0 : Int32)) := (by decide)
    refine Goes.go (fun _ kst => XS.ifNo X87.here hx rfl (hb hby at_122) rfl ((if0 _ _).trans (feq hc122_91).1) kst) ?_
    show Goes p e below s _ _ _ (T87.setTop (mkF m 125 #[.val (.int p0), .val (.int p1), .val (.int (4 : Int32)), .val (.int (15 : Int32)), .val (.int (Int32.ofNat kk)), .val (.ref b79), .val (.int (own_all (own_W vv 4) 4 0)), .val (.int ((Int32.ofNat kk) + (1 : Int32))), .val (.int (1 : Int32))] []))
    refine Goes.go (fun _ kst => XS.aload X87.here hx rfl (hb hby at_125) rfl rfl  kst) ?_
    show Goes p e below s _ _ _ (T87.setTop (mkF m 127 #[.val (.int p0), .val (.int p1), .val (.int (4 : Int32)), .val (.int (15 : Int32)), .val (.int (Int32.ofNat kk)), .val (.ref b79), .val (.int (own_all (own_W vv 4) 4 0)), .val (.int ((Int32.ofNat kk) + (1 : Int32))), .val (.int (1 : Int32))] [(.ref b79)]))
    refine Goes.go (fun _ kst => XS.iconst X87.here hx rfl (hb hby at_127) kst) ?_
    show Goes p e below s _ _ _ (T87.setTop (mkF m 128 #[.val (.int p0), .val (.int p1), .val (.int (4 : Int32)), .val (.int (15 : Int32)), .val (.int (Int32.ofNat kk)), .val (.ref b79), .val (.int (own_all (own_W vv 4) 4 0)), .val (.int ((Int32.ofNat kk) + (1 : Int32))), .val (.int (1 : Int32))] [(.int (0 : Int32)), (.ref b79)]))
    refine Goes.go (fun _ kst => XS.iload X87.here hx rfl (hb hby at_128) rfl  kst) ?_
    show Goes p e below s _ _ _ (T87.setTop (mkF m 130 #[.val (.int p0), .val (.int p1), .val (.int (4 : Int32)), .val (.int (15 : Int32)), .val (.int (Int32.ofNat kk)), .val (.ref b79), .val (.int (own_all (own_W vv 4) 4 0)), .val (.int ((Int32.ofNat kk) + (1 : Int32))), .val (.int (1 : Int32))] [(.int ((Int32.ofNat kk) + (1 : Int32))), (.int (0 : Int32)), (.ref b79)]))
    obtain ⟨_, _, ⟨T92, L92, k92, n92⟩, -, X92, ⟨Lc92, hQ92, l92, y92, z92⟩, st92⟩ := Jvm.LawKit.callS X87 hx (y := (⟨"com/example/surety/surety/DecompositionAdvancePinLaw", "same", "([ZII)Z"⟩ : MethodName)) hown (mvT hZ (hw _ (List.mem_of_getElem? (i := 10) rfl))) (mvT hZ (hw _ (List.mem_of_getElem? (i := 11) rfl))) (mvT hZ (hw _ (List.mem_of_getElem? (i := 4) rfl))) (mvT hZ (hw _ (List.mem_of_getElem? (i := 12) rfl))) (by decide) (backOf (W := 0) (rm3 l Z a0 hw [] b79 (0 : Int32) ((Int32.ofNat kk) + (1 : Int32)) 4 (own_W vv 4) 0 h87 n0 Z87 A87 rfl (by decide)) hZ (hw _ (List.mem_of_getElem? (i := 12) rfl)) (hw _ (List.mem_of_getElem? (i := 4) rfl)) (by decide) (by decide)) (g := (mkF m 130 #[.val (.int p0), .val (.int p1), .val (.int (4 : Int32)), .val (.int (15 : Int32)), .val (.int (Int32.ofNat kk)), .val (.ref b79), .val (.int (own_all (own_W vv 4) 4 0)), .val (.int ((Int32.ofNat kk) + (1 : Int32))), .val (.int (1 : Int32))] [(.int ((Int32.ofNat kk) + (1 : Int32))), (.int (0 : Int32)), (.ref b79)])) rfl (by rw [hml]; rfl) (argsL := [(.ref b79), (.int (0 : Int32)), (.int ((Int32.ofNat kk) + (1 : Int32)))]) (rest := []) (lenOf pd_2 rfl) rfl (by show 2 * 0 + _ ≤ _; exact Nat.le_of_eq rfl) (hb hby at_130) (fun _ _ => ⟨rfl, e87, (by decide : 1 + 0 ≤ _), (by decide : 4 + 0 ≤ _)⟩)
    dsimp only [Pt.U, Pt.locs, Pt.cells, Pt.slots] at X92 l92 y92 z92 st92 hQ92
    subst l92 y92 z92
    obtain ⟨rfl, N92q, e92⟩ := hQ92
    have N92 := Fr.app N87 N92q
    refine Goes.go st92 ?_
    show Goes p e below s _ _ _ (T92.setTop (mkF m 133 #[.val (.int p0), .val (.int p1), .val (.int (4 : Int32)), .val (.int (15 : Int32)), .val (.int (Int32.ofNat kk)), .val (.ref b79), .val (.int (own_all (own_W vv 4) 4 0)), .val (.int ((Int32.ofNat kk) + (1 : Int32))), .val (.int (1 : Int32))] [(.int (f3 b79 (0 : Int32) ((Int32.ofNat kk) + (1 : Int32)) 4 (own_W vv 4) 0))]))
    have hc133_93 : ¬ ((f3 b79 (0 : Int32) ((Int32.ofNat kk) + (1 : Int32)) 4 (own_W vv 4) 0) = (0 : Int32)) := gg0
    refine Goes.go (fun _ kst => XS.ifNo X92.here hx rfl (hb hby at_133) rfl ((if0 _ _).trans (feq hc133_93).1) kst) ?_
    show Goes p e below s _ _ _ (T92.setTop (mkF m 136 #[.val (.int p0), .val (.int p1), .val (.int (4 : Int32)), .val (.int (15 : Int32)), .val (.int (Int32.ofNat kk)), .val (.ref b79), .val (.int (own_all (own_W vv 4) 4 0)), .val (.int ((Int32.ofNat kk) + (1 : Int32))), .val (.int (1 : Int32))] []))
    refine Goes.go (fun _ kst => XS.aload X92.here hx rfl (hb hby at_136) rfl rfl  kst) ?_
    show Goes p e below s _ _ _ (T92.setTop (mkF m 138 #[.val (.int p0), .val (.int p1), .val (.int (4 : Int32)), .val (.int (15 : Int32)), .val (.int (Int32.ofNat kk)), .val (.ref b79), .val (.int (own_all (own_W vv 4) 4 0)), .val (.int ((Int32.ofNat kk) + (1 : Int32))), .val (.int (1 : Int32))] [(.ref b79)]))
    refine Goes.go (fun _ kst => XS.iconst X92.here hx rfl (hb hby at_138) kst) ?_
    show Goes p e below s _ _ _ (T92.setTop (mkF m 139 #[.val (.int p0), .val (.int p1), .val (.int (4 : Int32)), .val (.int (15 : Int32)), .val (.int (Int32.ofNat kk)), .val (.ref b79), .val (.int (own_all (own_W vv 4) 4 0)), .val (.int ((Int32.ofNat kk) + (1 : Int32))), .val (.int (1 : Int32))] [(.int (1 : Int32)), (.ref b79)]))
    refine Goes.go (fun _ kst => XS.iload X92.here hx rfl (hb hby at_139) rfl  kst) ?_
    show Goes p e below s _ _ _ (T92.setTop (mkF m 141 #[.val (.int p0), .val (.int p1), .val (.int (4 : Int32)), .val (.int (15 : Int32)), .val (.int (Int32.ofNat kk)), .val (.ref b79), .val (.int (own_all (own_W vv 4) 4 0)), .val (.int ((Int32.ofNat kk) + (1 : Int32))), .val (.int (1 : Int32))] [(.int ((Int32.ofNat kk) + (1 : Int32))), (.int (1 : Int32)), (.ref b79)]))
    obtain ⟨_, _, ⟨T94, L94, k94, n94⟩, -, X94, ⟨Lc94, hQ94, l94, y94, z94⟩, st94⟩ := Jvm.LawKit.callS X92 hx (y := (⟨"com/example/surety/surety/DecompositionAdvancePinLaw", "same", "([ZII)Z"⟩ : MethodName)) hown (mvT hZ (hw _ (List.mem_of_getElem? (i := 10) rfl))) (mvT hZ (hw _ (List.mem_of_getElem? (i := 11) rfl))) (mvT hZ (hw _ (List.mem_of_getElem? (i := 4) rfl))) (mvT hZ (hw _ (List.mem_of_getElem? (i := 12) rfl))) (by decide) (backOf (W := 0) (rm3 l Z a0 hw [] b79 (1 : Int32) ((Int32.ofNat kk) + (1 : Int32)) 4 (own_W vv 4) 1 h87 n0 Z87 A87 rfl (by decide)) hZ (hw _ (List.mem_of_getElem? (i := 12) rfl)) (hw _ (List.mem_of_getElem? (i := 4) rfl)) (by decide) (by decide)) (g := (mkF m 141 #[.val (.int p0), .val (.int p1), .val (.int (4 : Int32)), .val (.int (15 : Int32)), .val (.int (Int32.ofNat kk)), .val (.ref b79), .val (.int (own_all (own_W vv 4) 4 0)), .val (.int ((Int32.ofNat kk) + (1 : Int32))), .val (.int (1 : Int32))] [(.int ((Int32.ofNat kk) + (1 : Int32))), (.int (1 : Int32)), (.ref b79)])) rfl (by rw [hml]; rfl) (argsL := [(.ref b79), (.int (1 : Int32)), (.int ((Int32.ofNat kk) + (1 : Int32)))]) (rest := []) (lenOf pd_2 rfl) rfl (by show 2 * 0 + _ ≤ _; exact Nat.le_of_eq rfl) (hb hby at_141) (fun _ _ => ⟨rfl, e92, (by decide : 1 + 0 ≤ _), (by decide : 4 + 0 ≤ _)⟩)
    dsimp only [Pt.U, Pt.locs, Pt.cells, Pt.slots] at X94 l94 y94 z94 st94 hQ94
    subst l94 y94 z94
    obtain ⟨rfl, N94q, e94⟩ := hQ94
    have N94 := Fr.app N92 N94q
    refine Goes.go st94 ?_
    show Goes p e below s _ _ _ (T94.setTop (mkF m 144 #[.val (.int p0), .val (.int p1), .val (.int (4 : Int32)), .val (.int (15 : Int32)), .val (.int (Int32.ofNat kk)), .val (.ref b79), .val (.int (own_all (own_W vv 4) 4 0)), .val (.int ((Int32.ofNat kk) + (1 : Int32))), .val (.int (1 : Int32))] [(.int (f3 b79 (1 : Int32) ((Int32.ofNat kk) + (1 : Int32)) 4 (own_W vv 4) 1))]))
    have hc144_95 : ¬ ((f3 b79 (1 : Int32) ((Int32.ofNat kk) + (1 : Int32)) 4 (own_W vv 4) 1) = (0 : Int32)) := gg1
    refine Goes.go (fun _ kst => XS.ifNo X94.here hx rfl (hb hby at_144) rfl ((if0 _ _).trans (feq hc144_95).1) kst) ?_
    show Goes p e below s _ _ _ (T94.setTop (mkF m 147 #[.val (.int p0), .val (.int p1), .val (.int (4 : Int32)), .val (.int (15 : Int32)), .val (.int (Int32.ofNat kk)), .val (.ref b79), .val (.int (own_all (own_W vv 4) 4 0)), .val (.int ((Int32.ofNat kk) + (1 : Int32))), .val (.int (1 : Int32))] []))
    refine Goes.go (fun _ kst => XS.aload X94.here hx rfl (hb hby at_147) rfl rfl  kst) ?_
    show Goes p e below s _ _ _ (T94.setTop (mkF m 149 #[.val (.int p0), .val (.int p1), .val (.int (4 : Int32)), .val (.int (15 : Int32)), .val (.int (Int32.ofNat kk)), .val (.ref b79), .val (.int (own_all (own_W vv 4) 4 0)), .val (.int ((Int32.ofNat kk) + (1 : Int32))), .val (.int (1 : Int32))] [(.ref b79)]))
    refine Goes.go (fun _ kst => XS.iconst X94.here hx rfl (hb hby at_149) kst) ?_
    show Goes p e below s _ _ _ (T94.setTop (mkF m 150 #[.val (.int p0), .val (.int p1), .val (.int (4 : Int32)), .val (.int (15 : Int32)), .val (.int (Int32.ofNat kk)), .val (.ref b79), .val (.int (own_all (own_W vv 4) 4 0)), .val (.int ((Int32.ofNat kk) + (1 : Int32))), .val (.int (1 : Int32))] [(.int (2 : Int32)), (.ref b79)]))
    refine Goes.go (fun _ kst => XS.iload X94.here hx rfl (hb hby at_150) rfl  kst) ?_
    show Goes p e below s _ _ _ (T94.setTop (mkF m 152 #[.val (.int p0), .val (.int p1), .val (.int (4 : Int32)), .val (.int (15 : Int32)), .val (.int (Int32.ofNat kk)), .val (.ref b79), .val (.int (own_all (own_W vv 4) 4 0)), .val (.int ((Int32.ofNat kk) + (1 : Int32))), .val (.int (1 : Int32))] [(.int ((Int32.ofNat kk) + (1 : Int32))), (.int (2 : Int32)), (.ref b79)]))
    obtain ⟨_, _, ⟨T96, L96, k96, n96⟩, -, X96, ⟨Lc96, hQ96, l96, y96, z96⟩, st96⟩ := Jvm.LawKit.callS X94 hx (y := (⟨"com/example/surety/surety/DecompositionAdvancePinLaw", "same", "([ZII)Z"⟩ : MethodName)) hown (mvT hZ (hw _ (List.mem_of_getElem? (i := 10) rfl))) (mvT hZ (hw _ (List.mem_of_getElem? (i := 11) rfl))) (mvT hZ (hw _ (List.mem_of_getElem? (i := 4) rfl))) (mvT hZ (hw _ (List.mem_of_getElem? (i := 12) rfl))) (by decide) (backOf (W := 0) (rm3 l Z a0 hw [] b79 (2 : Int32) ((Int32.ofNat kk) + (1 : Int32)) 4 (own_W vv 4) 2 h87 n0 Z87 A87 rfl (by decide)) hZ (hw _ (List.mem_of_getElem? (i := 12) rfl)) (hw _ (List.mem_of_getElem? (i := 4) rfl)) (by decide) (by decide)) (g := (mkF m 152 #[.val (.int p0), .val (.int p1), .val (.int (4 : Int32)), .val (.int (15 : Int32)), .val (.int (Int32.ofNat kk)), .val (.ref b79), .val (.int (own_all (own_W vv 4) 4 0)), .val (.int ((Int32.ofNat kk) + (1 : Int32))), .val (.int (1 : Int32))] [(.int ((Int32.ofNat kk) + (1 : Int32))), (.int (2 : Int32)), (.ref b79)])) rfl (by rw [hml]; rfl) (argsL := [(.ref b79), (.int (2 : Int32)), (.int ((Int32.ofNat kk) + (1 : Int32)))]) (rest := []) (lenOf pd_2 rfl) rfl (by show 2 * 0 + _ ≤ _; exact Nat.le_of_eq rfl) (hb hby at_152) (fun _ _ => ⟨rfl, e94, (by decide : 1 + 0 ≤ _), (by decide : 4 + 0 ≤ _)⟩)
    dsimp only [Pt.U, Pt.locs, Pt.cells, Pt.slots] at X96 l96 y96 z96 st96 hQ96
    subst l96 y96 z96
    obtain ⟨rfl, N96q, e96⟩ := hQ96
    have N96 := Fr.app N94 N96q
    refine Goes.go st96 ?_
    show Goes p e below s _ _ _ (T96.setTop (mkF m 155 #[.val (.int p0), .val (.int p1), .val (.int (4 : Int32)), .val (.int (15 : Int32)), .val (.int (Int32.ofNat kk)), .val (.ref b79), .val (.int (own_all (own_W vv 4) 4 0)), .val (.int ((Int32.ofNat kk) + (1 : Int32))), .val (.int (1 : Int32))] [(.int (f3 b79 (2 : Int32) ((Int32.ofNat kk) + (1 : Int32)) 4 (own_W vv 4) 2))]))
    have hc155_97 : ¬ ((f3 b79 (2 : Int32) ((Int32.ofNat kk) + (1 : Int32)) 4 (own_W vv 4) 2) = (0 : Int32)) := gg2
    refine Goes.go (fun _ kst => XS.ifNo X96.here hx rfl (hb hby at_155) rfl ((if0 _ _).trans (feq hc155_97).1) kst) ?_
    show Goes p e below s _ _ _ (T96.setTop (mkF m 158 #[.val (.int p0), .val (.int p1), .val (.int (4 : Int32)), .val (.int (15 : Int32)), .val (.int (Int32.ofNat kk)), .val (.ref b79), .val (.int (own_all (own_W vv 4) 4 0)), .val (.int ((Int32.ofNat kk) + (1 : Int32))), .val (.int (1 : Int32))] []))
    refine Goes.go (fun _ kst => XS.iconst X96.here hx rfl (hb hby at_158) kst) ?_
    show Goes p e below s _ _ _ (T96.setTop (mkF m 159 #[.val (.int p0), .val (.int p1), .val (.int (4 : Int32)), .val (.int (15 : Int32)), .val (.int (Int32.ofNat kk)), .val (.ref b79), .val (.int (own_all (own_W vv 4) 4 0)), .val (.int ((Int32.ofNat kk) + (1 : Int32))), .val (.int (1 : Int32))] [(.int (1 : Int32))]))
    refine Goes.go (fun _ kst => XS.goto X96.here hx rfl (pc0 := 159) (pc' := 163) rfl (hb hby at_159) (by decide) (by decide) kst) ?_
    show Goes p e below s _ _ _ (T96.setTop (mkF m 163 #[.val (.int p0), .val (.int p1), .val (.int (4 : Int32)), .val (.int (15 : Int32)), .val (.int (Int32.ofNat kk)), .val (.ref b79), .val (.int (own_all (own_W vv 4) 4 0)), .val (.int ((Int32.ofNat kk) + (1 : Int32))), .val (.int (1 : Int32))] [(.int (1 : Int32))]))
    refine Goes.go (fun _ kst => XS.istore X96.here hx rfl (hb hby at_163) rfl (l' := #[.val (.int p0), .val (.int p1), .val (.int (4 : Int32)), .val (.int (15 : Int32)), .val (.int (Int32.ofNat kk)), .val (.ref b79), .val (.int (own_all (own_W vv 4) 4 0)), .val (.int ((Int32.ofNat kk) + (1 : Int32))), .val (.int (1 : Int32))]) rfl kst) ?_
    show Goes p e below s _ _ _ (T96.setTop (mkF m 165 #[.val (.int p0), .val (.int p1), .val (.int (4 : Int32)), .val (.int (15 : Int32)), .val (.int (Int32.ofNat kk)), .val (.ref b79), .val (.int (own_all (own_W vv 4) 4 0)), .val (.int ((Int32.ofNat kk) + (1 : Int32))), .val (.int (1 : Int32))] []))
    refine Goes.go (fun _ kst => XS.iload X96.here hx rfl (hb hby at_165) rfl  kst) ?_
    show Goes p e below s _ _ _ (T96.setTop (mkF m 167 #[.val (.int p0), .val (.int p1), .val (.int (4 : Int32)), .val (.int (15 : Int32)), .val (.int (Int32.ofNat kk)), .val (.ref b79), .val (.int (own_all (own_W vv 4) 4 0)), .val (.int ((Int32.ofNat kk) + (1 : Int32))), .val (.int (1 : Int32))] [(.int (1 : Int32))]))
    have hc167_98 : ¬ ((1 : Int32) = (0 : Int32)) := (by decide)
    refine Goes.go (fun _ kst => XS.ifNo X96.here hx rfl (hb hby at_167) rfl ((if0 _ _).trans (feq hc167_98).1) kst) ?_
    show Goes p e below s _ _ _ (T96.setTop (mkF m 170 #[.val (.int p0), .val (.int p1), .val (.int (4 : Int32)), .val (.int (15 : Int32)), .val (.int (Int32.ofNat kk)), .val (.ref b79), .val (.int (own_all (own_W vv 4) 4 0)), .val (.int ((Int32.ofNat kk) + (1 : Int32))), .val (.int (1 : Int32))] []))
    refine Goes.go (fun _ kst => XS.aload X96.here hx rfl (hb hby at_170) rfl rfl  kst) ?_
    show Goes p e below s _ _ _ (T96.setTop (mkF m 172 #[.val (.int p0), .val (.int p1), .val (.int (4 : Int32)), .val (.int (15 : Int32)), .val (.int (Int32.ofNat kk)), .val (.ref b79), .val (.int (own_all (own_W vv 4) 4 0)), .val (.int ((Int32.ofNat kk) + (1 : Int32))), .val (.int (1 : Int32))] [(.ref b79)]))
    refine Goes.go (fun _ kst => XS.iconst X96.here hx rfl (hb hby at_172) kst) ?_
    show Goes p e below s _ _ _ (T96.setTop (mkF m 173 #[.val (.int p0), .val (.int p1), .val (.int (4 : Int32)), .val (.int (15 : Int32)), .val (.int (Int32.ofNat kk)), .val (.ref b79), .val (.int (own_all (own_W vv 4) 4 0)), .val (.int ((Int32.ofNat kk) + (1 : Int32))), .val (.int (1 : Int32))] [(.int (3 : Int32)), (.ref b79)]))
    refine Goes.go (fun _ kst => XS.iload X96.here hx rfl (hb hby at_173) rfl  kst) ?_
    show Goes p e below s _ _ _ (T96.setTop (mkF m 175 #[.val (.int p0), .val (.int p1), .val (.int (4 : Int32)), .val (.int (15 : Int32)), .val (.int (Int32.ofNat kk)), .val (.ref b79), .val (.int (own_all (own_W vv 4) 4 0)), .val (.int ((Int32.ofNat kk) + (1 : Int32))), .val (.int (1 : Int32))] [(.int ((Int32.ofNat kk) + (1 : Int32))), (.int (3 : Int32)), (.ref b79)]))
    obtain ⟨_, _, ⟨T99, L99, k99, n99⟩, -, X99, ⟨Lc99, hQ99, l99, y99, z99⟩, st99⟩ := Jvm.LawKit.callS X96 hx (y := (⟨"com/example/surety/surety/DecompositionAdvancePinLaw", "same", "([ZII)Z"⟩ : MethodName)) hown (mvT hZ (hw _ (List.mem_of_getElem? (i := 10) rfl))) (mvT hZ (hw _ (List.mem_of_getElem? (i := 11) rfl))) (mvT hZ (hw _ (List.mem_of_getElem? (i := 4) rfl))) (mvT hZ (hw _ (List.mem_of_getElem? (i := 12) rfl))) (by decide) (backOf (W := 0) (rm3 l Z a0 hw [] b79 (3 : Int32) ((Int32.ofNat kk) + (1 : Int32)) 4 (own_W vv 4) 3 h87 n0 Z87 A87 rfl (by decide)) hZ (hw _ (List.mem_of_getElem? (i := 12) rfl)) (hw _ (List.mem_of_getElem? (i := 4) rfl)) (by decide) (by decide)) (g := (mkF m 175 #[.val (.int p0), .val (.int p1), .val (.int (4 : Int32)), .val (.int (15 : Int32)), .val (.int (Int32.ofNat kk)), .val (.ref b79), .val (.int (own_all (own_W vv 4) 4 0)), .val (.int ((Int32.ofNat kk) + (1 : Int32))), .val (.int (1 : Int32))] [(.int ((Int32.ofNat kk) + (1 : Int32))), (.int (3 : Int32)), (.ref b79)])) rfl (by rw [hml]; rfl) (argsL := [(.ref b79), (.int (3 : Int32)), (.int ((Int32.ofNat kk) + (1 : Int32)))]) (rest := []) (lenOf pd_2 rfl) rfl (by show 2 * 0 + _ ≤ _; exact Nat.le_of_eq rfl) (hb hby at_175) (fun _ _ => ⟨rfl, e96, (by decide : 1 + 0 ≤ _), (by decide : 4 + 0 ≤ _)⟩)
    dsimp only [Pt.U, Pt.locs, Pt.cells, Pt.slots] at X99 l99 y99 z99 st99 hQ99
    subst l99 y99 z99
    obtain ⟨rfl, N99q, e99⟩ := hQ99
    have N99 := Fr.app N96 N99q
    refine Goes.go st99 ?_
    show Goes p e below s _ _ _ (T99.setTop (mkF m 178 #[.val (.int p0), .val (.int p1), .val (.int (4 : Int32)), .val (.int (15 : Int32)), .val (.int (Int32.ofNat kk)), .val (.ref b79), .val (.int (own_all (own_W vv 4) 4 0)), .val (.int ((Int32.ofNat kk) + (1 : Int32))), .val (.int (1 : Int32))] [(.int (f3 b79 (3 : Int32) ((Int32.ofNat kk) + (1 : Int32)) 4 (own_W vv 4) 3))]))
    have hc178_100 : ¬ ((f3 b79 (3 : Int32) ((Int32.ofNat kk) + (1 : Int32)) 4 (own_W vv 4) 3) = (0 : Int32)) := gg3
    refine Goes.go (fun _ kst => XS.ifNo X99.here hx rfl (hb hby at_178) rfl ((if0 _ _).trans (feq hc178_100).1) kst) ?_
    show Goes p e below s _ _ _ (T99.setTop (mkF m 181 #[.val (.int p0), .val (.int p1), .val (.int (4 : Int32)), .val (.int (15 : Int32)), .val (.int (Int32.ofNat kk)), .val (.ref b79), .val (.int (own_all (own_W vv 4) 4 0)), .val (.int ((Int32.ofNat kk) + (1 : Int32))), .val (.int (1 : Int32))] []))
    refine Goes.go (fun _ kst => XS.aload X99.here hx rfl (hb hby at_181) rfl rfl  kst) ?_
    show Goes p e below s _ _ _ (T99.setTop (mkF m 183 #[.val (.int p0), .val (.int p1), .val (.int (4 : Int32)), .val (.int (15 : Int32)), .val (.int (Int32.ofNat kk)), .val (.ref b79), .val (.int (own_all (own_W vv 4) 4 0)), .val (.int ((Int32.ofNat kk) + (1 : Int32))), .val (.int (1 : Int32))] [(.ref b79)]))
    refine Goes.go (fun _ kst => XS.iconst X99.here hx rfl (hb hby at_183) kst) ?_
    show Goes p e below s _ _ _ (T99.setTop (mkF m 184 #[.val (.int p0), .val (.int p1), .val (.int (4 : Int32)), .val (.int (15 : Int32)), .val (.int (Int32.ofNat kk)), .val (.ref b79), .val (.int (own_all (own_W vv 4) 4 0)), .val (.int ((Int32.ofNat kk) + (1 : Int32))), .val (.int (1 : Int32))] [(.int (4 : Int32)), (.ref b79)]))
    refine Goes.go (fun _ kst => XS.iload X99.here hx rfl (hb hby at_184) rfl  kst) ?_
    show Goes p e below s _ _ _ (T99.setTop (mkF m 186 #[.val (.int p0), .val (.int p1), .val (.int (4 : Int32)), .val (.int (15 : Int32)), .val (.int (Int32.ofNat kk)), .val (.ref b79), .val (.int (own_all (own_W vv 4) 4 0)), .val (.int ((Int32.ofNat kk) + (1 : Int32))), .val (.int (1 : Int32))] [(.int ((Int32.ofNat kk) + (1 : Int32))), (.int (4 : Int32)), (.ref b79)]))
    obtain ⟨_, _, ⟨T101, L101, k101, n101⟩, -, X101, ⟨Lc101, hQ101, l101, y101, z101⟩, st101⟩ := Jvm.LawKit.callS X99 hx (y := (⟨"com/example/surety/surety/DecompositionAdvancePinLaw", "same", "([ZII)Z"⟩ : MethodName)) hown (mvT hZ (hw _ (List.mem_of_getElem? (i := 10) rfl))) (mvT hZ (hw _ (List.mem_of_getElem? (i := 11) rfl))) (mvT hZ (hw _ (List.mem_of_getElem? (i := 4) rfl))) (mvT hZ (hw _ (List.mem_of_getElem? (i := 12) rfl))) (by decide) (backOf (W := 0) (rm3 l Z a0 hw [] b79 (4 : Int32) ((Int32.ofNat kk) + (1 : Int32)) 4 (own_W vv 4) 4 h87 n0 Z87 A87 rfl (by decide)) hZ (hw _ (List.mem_of_getElem? (i := 12) rfl)) (hw _ (List.mem_of_getElem? (i := 4) rfl)) (by decide) (by decide)) (g := (mkF m 186 #[.val (.int p0), .val (.int p1), .val (.int (4 : Int32)), .val (.int (15 : Int32)), .val (.int (Int32.ofNat kk)), .val (.ref b79), .val (.int (own_all (own_W vv 4) 4 0)), .val (.int ((Int32.ofNat kk) + (1 : Int32))), .val (.int (1 : Int32))] [(.int ((Int32.ofNat kk) + (1 : Int32))), (.int (4 : Int32)), (.ref b79)])) rfl (by rw [hml]; rfl) (argsL := [(.ref b79), (.int (4 : Int32)), (.int ((Int32.ofNat kk) + (1 : Int32)))]) (rest := []) (lenOf pd_2 rfl) rfl (by show 2 * 0 + _ ≤ _; exact Nat.le_of_eq rfl) (hb hby at_186) (fun _ _ => ⟨rfl, e99, (by decide : 1 + 0 ≤ _), (by decide : 4 + 0 ≤ _)⟩)
    dsimp only [Pt.U, Pt.locs, Pt.cells, Pt.slots] at X101 l101 y101 z101 st101 hQ101
    subst l101 y101 z101
    obtain ⟨rfl, N101q, e101⟩ := hQ101
    have N101 := Fr.app N99 N101q
    refine Goes.go st101 ?_
    show Goes p e below s _ _ _ (T101.setTop (mkF m 189 #[.val (.int p0), .val (.int p1), .val (.int (4 : Int32)), .val (.int (15 : Int32)), .val (.int (Int32.ofNat kk)), .val (.ref b79), .val (.int (own_all (own_W vv 4) 4 0)), .val (.int ((Int32.ofNat kk) + (1 : Int32))), .val (.int (1 : Int32))] [(.int (f3 b79 (4 : Int32) ((Int32.ofNat kk) + (1 : Int32)) 4 (own_W vv 4) 4))]))
    have hc189_102 : ¬ ((f3 b79 (4 : Int32) ((Int32.ofNat kk) + (1 : Int32)) 4 (own_W vv 4) 4) = (0 : Int32)) := gg4
    refine Goes.go (fun _ kst => XS.ifNo X101.here hx rfl (hb hby at_189) rfl ((if0 _ _).trans (feq hc189_102).1) kst) ?_
    show Goes p e below s _ _ _ (T101.setTop (mkF m 192 #[.val (.int p0), .val (.int p1), .val (.int (4 : Int32)), .val (.int (15 : Int32)), .val (.int (Int32.ofNat kk)), .val (.ref b79), .val (.int (own_all (own_W vv 4) 4 0)), .val (.int ((Int32.ofNat kk) + (1 : Int32))), .val (.int (1 : Int32))] []))
    refine Goes.go (fun _ kst => XS.aload X101.here hx rfl (hb hby at_192) rfl rfl  kst) ?_
    show Goes p e below s _ _ _ (T101.setTop (mkF m 194 #[.val (.int p0), .val (.int p1), .val (.int (4 : Int32)), .val (.int (15 : Int32)), .val (.int (Int32.ofNat kk)), .val (.ref b79), .val (.int (own_all (own_W vv 4) 4 0)), .val (.int ((Int32.ofNat kk) + (1 : Int32))), .val (.int (1 : Int32))] [(.ref b79)]))
    refine Goes.go (fun _ kst => XS.iconst X101.here hx rfl (hb hby at_194) kst) ?_
    show Goes p e below s _ _ _ (T101.setTop (mkF m 195 #[.val (.int p0), .val (.int p1), .val (.int (4 : Int32)), .val (.int (15 : Int32)), .val (.int (Int32.ofNat kk)), .val (.ref b79), .val (.int (own_all (own_W vv 4) 4 0)), .val (.int ((Int32.ofNat kk) + (1 : Int32))), .val (.int (1 : Int32))] [(.int (5 : Int32)), (.ref b79)]))
    refine Goes.go (fun _ kst => XS.iload X101.here hx rfl (hb hby at_195) rfl  kst) ?_
    show Goes p e below s _ _ _ (T101.setTop (mkF m 197 #[.val (.int p0), .val (.int p1), .val (.int (4 : Int32)), .val (.int (15 : Int32)), .val (.int (Int32.ofNat kk)), .val (.ref b79), .val (.int (own_all (own_W vv 4) 4 0)), .val (.int ((Int32.ofNat kk) + (1 : Int32))), .val (.int (1 : Int32))] [(.int ((Int32.ofNat kk) + (1 : Int32))), (.int (5 : Int32)), (.ref b79)]))
    obtain ⟨_, _, ⟨T103, L103, k103, n103⟩, -, X103, ⟨Lc103, hQ103, l103, y103, z103⟩, st103⟩ := Jvm.LawKit.callS X101 hx (y := (⟨"com/example/surety/surety/DecompositionAdvancePinLaw", "same", "([ZII)Z"⟩ : MethodName)) hown (mvT hZ (hw _ (List.mem_of_getElem? (i := 10) rfl))) (mvT hZ (hw _ (List.mem_of_getElem? (i := 11) rfl))) (mvT hZ (hw _ (List.mem_of_getElem? (i := 4) rfl))) (mvT hZ (hw _ (List.mem_of_getElem? (i := 12) rfl))) (by decide) (backOf (W := 0) (rm3 l Z a0 hw [] b79 (5 : Int32) ((Int32.ofNat kk) + (1 : Int32)) 4 (own_W vv 4) 5 h87 n0 Z87 A87 rfl (by decide)) hZ (hw _ (List.mem_of_getElem? (i := 12) rfl)) (hw _ (List.mem_of_getElem? (i := 4) rfl)) (by decide) (by decide)) (g := (mkF m 197 #[.val (.int p0), .val (.int p1), .val (.int (4 : Int32)), .val (.int (15 : Int32)), .val (.int (Int32.ofNat kk)), .val (.ref b79), .val (.int (own_all (own_W vv 4) 4 0)), .val (.int ((Int32.ofNat kk) + (1 : Int32))), .val (.int (1 : Int32))] [(.int ((Int32.ofNat kk) + (1 : Int32))), (.int (5 : Int32)), (.ref b79)])) rfl (by rw [hml]; rfl) (argsL := [(.ref b79), (.int (5 : Int32)), (.int ((Int32.ofNat kk) + (1 : Int32)))]) (rest := []) (lenOf pd_2 rfl) rfl (by show 2 * 0 + _ ≤ _; exact Nat.le_of_eq rfl) (hb hby at_197) (fun _ _ => ⟨rfl, e101, (by decide : 1 + 0 ≤ _), (by decide : 4 + 0 ≤ _)⟩)
    dsimp only [Pt.U, Pt.locs, Pt.cells, Pt.slots] at X103 l103 y103 z103 st103 hQ103
    subst l103 y103 z103
    obtain ⟨rfl, N103q, e103⟩ := hQ103
    have N103 := Fr.app N101 N103q
    refine Goes.go st103 ?_
    show Goes p e below s _ _ _ (T103.setTop (mkF m 200 #[.val (.int p0), .val (.int p1), .val (.int (4 : Int32)), .val (.int (15 : Int32)), .val (.int (Int32.ofNat kk)), .val (.ref b79), .val (.int (own_all (own_W vv 4) 4 0)), .val (.int ((Int32.ofNat kk) + (1 : Int32))), .val (.int (1 : Int32))] [(.int (f3 b79 (5 : Int32) ((Int32.ofNat kk) + (1 : Int32)) 4 (own_W vv 4) 5))]))
    have hc200_104 : ¬ ((f3 b79 (5 : Int32) ((Int32.ofNat kk) + (1 : Int32)) 4 (own_W vv 4) 5) = (0 : Int32)) := gg5
    refine Goes.go (fun _ kst => XS.ifNo X103.here hx rfl (hb hby at_200) rfl ((if0 _ _).trans (feq hc200_104).1) kst) ?_
    show Goes p e below s _ _ _ (T103.setTop (mkF m 203 #[.val (.int p0), .val (.int p1), .val (.int (4 : Int32)), .val (.int (15 : Int32)), .val (.int (Int32.ofNat kk)), .val (.ref b79), .val (.int (own_all (own_W vv 4) 4 0)), .val (.int ((Int32.ofNat kk) + (1 : Int32))), .val (.int (1 : Int32))] []))
    refine Goes.go (fun _ kst => XS.iconst X103.here hx rfl (hb hby at_203) kst) ?_
    show Goes p e below s _ _ _ (T103.setTop (mkF m 204 #[.val (.int p0), .val (.int p1), .val (.int (4 : Int32)), .val (.int (15 : Int32)), .val (.int (Int32.ofNat kk)), .val (.ref b79), .val (.int (own_all (own_W vv 4) 4 0)), .val (.int ((Int32.ofNat kk) + (1 : Int32))), .val (.int (1 : Int32))] [(.int (1 : Int32))]))
    refine Goes.go (fun _ kst => XS.goto X103.here hx rfl (pc0 := 204) (pc' := 208) rfl (hb hby at_204) (by decide) (by decide) kst) ?_
    show Goes p e below s _ _ _ (T103.setTop (mkF m 208 #[.val (.int p0), .val (.int p1), .val (.int (4 : Int32)), .val (.int (15 : Int32)), .val (.int (Int32.ofNat kk)), .val (.ref b79), .val (.int (own_all (own_W vv 4) 4 0)), .val (.int ((Int32.ofNat kk) + (1 : Int32))), .val (.int (1 : Int32))] [(.int (1 : Int32))]))
    refine Goes.go (fun _ kst => XS.istore X103.here hx rfl (hb hby at_208) rfl (l' := #[.val (.int p0), .val (.int p1), .val (.int (4 : Int32)), .val (.int (15 : Int32)), .val (.int (Int32.ofNat kk)), .val (.ref b79), .val (.int (own_all (own_W vv 4) 4 0)), .val (.int ((Int32.ofNat kk) + (1 : Int32))), .val (.int (1 : Int32))]) rfl kst) ?_
    show Goes p e below s _ _ _ (T103.setTop (mkF m 210 #[.val (.int p0), .val (.int p1), .val (.int (4 : Int32)), .val (.int (15 : Int32)), .val (.int (Int32.ofNat kk)), .val (.ref b79), .val (.int (own_all (own_W vv 4) 4 0)), .val (.int ((Int32.ofNat kk) + (1 : Int32))), .val (.int (1 : Int32))] []))
    refine Goes.go (fun _ kst => XS.iload X103.here hx rfl (hb hby at_210) rfl  kst) ?_
    show Goes p e below s _ _ _ (T103.setTop (mkF m 212 #[.val (.int p0), .val (.int p1), .val (.int (4 : Int32)), .val (.int (15 : Int32)), .val (.int (Int32.ofNat kk)), .val (.ref b79), .val (.int (own_all (own_W vv 4) 4 0)), .val (.int ((Int32.ofNat kk) + (1 : Int32))), .val (.int (1 : Int32))] [(.int (1 : Int32))]))
    refine Goes.retN .boolean X103 hx hlk Bd.returns (by simp) (hb hby at_212) ?_ (by decide) (by decide)
    exact ⟨rfl, N103⟩
  · rw [show ((1 : Int32) + ((p0 &&& (2147483647 : Int32)) % (6 : Int32))) = (5 : Int32) from by rw [show ((p0 &&& (2147483647 : Int32)) % (6 : Int32)) = Int32.ofNat 4 from en]; rfl]
    show Goes p e below s _ _ _ (s₁.setTop (mkF m 10 #[.val (.int p0), .val (.int p1), .val (.int (5 : Int32)), .unset, .unset, .unset, .unset, .unset, .unset] []))
    refine Goes.go (fun _ kst => XS.iconst X0.here hx rfl (hb hby at_10) kst) ?_
    show Goes p e below s _ _ _ (s₁.setTop (mkF m 11 #[.val (.int p0), .val (.int p1), .val (.int (5 : Int32)), .unset, .unset, .unset, .unset, .unset, .unset] [(.int (1 : Int32))]))
    refine Goes.go (fun _ kst => XS.iloadN X0.here hx rfl (hb hby at_11) rfl  kst) ?_
    show Goes p e below s _ _ _ (s₁.setTop (mkF m 12 #[.val (.int p0), .val (.int p1), .val (.int (5 : Int32)), .unset, .unset, .unset, .unset, .unset, .unset] [(.int (5 : Int32)), (.int (1 : Int32))]))
    refine Goes.go (fun _ kst => XS.ishl X0.here hx rfl (hb hby at_12) rfl kst) ?_
    show Goes p e below s _ _ _ (s₁.setTop (mkF m 13 #[.val (.int p0), .val (.int p1), .val (.int (5 : Int32)), .unset, .unset, .unset, .unset, .unset, .unset] [(.int ((1 : Int32) <<< ((5 : Int32) &&& 31)))]))
    refine Goes.go (fun _ kst => XS.iconst X0.here hx rfl (hb hby at_13) kst) ?_
    show Goes p e below s _ _ _ (s₁.setTop (mkF m 14 #[.val (.int p0), .val (.int p1), .val (.int (5 : Int32)), .unset, .unset, .unset, .unset, .unset, .unset] [(.int (1 : Int32)), (.int ((1 : Int32) <<< ((5 : Int32) &&& 31)))]))
    refine Goes.go (fun _ kst => XS.isub X0.here hx rfl (hb hby at_14) rfl kst) ?_
    rw [show (((1 : Int32) <<< ((5 : Int32) &&& 31)) - (1 : Int32)) = (31 : Int32) from by decide]
    show Goes p e below s _ _ _ (s₁.setTop (mkF m 15 #[.val (.int p0), .val (.int p1), .val (.int (5 : Int32)), .unset, .unset, .unset, .unset, .unset, .unset] [(.int (31 : Int32))]))
    refine Goes.go (fun _ kst => XS.istoreN X0.here hx rfl (hb hby at_15) rfl (l' := #[.val (.int p0), .val (.int p1), .val (.int (5 : Int32)), .val (.int (31 : Int32)), .unset, .unset, .unset, .unset, .unset]) rfl kst) ?_
    show Goes p e below s _ _ _ (s₁.setTop (mkF m 16 #[.val (.int p0), .val (.int p1), .val (.int (5 : Int32)), .val (.int (31 : Int32)), .unset, .unset, .unset, .unset, .unset] []))
    refine Goes.go (fun _ kst => XS.iloadN X0.here hx rfl (hb hby at_16) rfl  kst) ?_
    show Goes p e below s _ _ _ (s₁.setTop (mkF m 17 #[.val (.int p0), .val (.int p1), .val (.int (5 : Int32)), .val (.int (31 : Int32)), .unset, .unset, .unset, .unset, .unset] [(.int p1)]))
    refine Goes.go (fun _ kst => X0.ldcInt hx hown (mvT hZ (hw _ (List.mem_of_getElem? (i := 0) rfl))) (g := (mkF m 17 #[.val (.int p0), .val (.int p1), .val (.int (5 : Int32)), .val (.int (31 : Int32)), .unset, .unset, .unset, .unset, .unset] [(.int p1)])) rfl (hb hby at_17) _ kst) ?_
    show Goes p e below s _ _ _ (s₁.setTop (mkF m 19 #[.val (.int p0), .val (.int p1), .val (.int (5 : Int32)), .val (.int (31 : Int32)), .unset, .unset, .unset, .unset, .unset] [(.int (2147483647 : Int32)), (.int p1)]))
    refine Goes.go (fun _ kst => XS.iand X0.here hx rfl (hb hby at_19) rfl kst) ?_
    show Goes p e below s _ _ _ (s₁.setTop (mkF m 20 #[.val (.int p0), .val (.int p1), .val (.int (5 : Int32)), .val (.int (31 : Int32)), .unset, .unset, .unset, .unset, .unset] [(.int (p1 &&& (2147483647 : Int32)))]))
    refine Goes.go (fun _ kst => XS.iloadN X0.here hx rfl (hb hby at_20) rfl  kst) ?_
    show Goes p e below s _ _ _ (s₁.setTop (mkF m 21 #[.val (.int p0), .val (.int p1), .val (.int (5 : Int32)), .val (.int (31 : Int32)), .unset, .unset, .unset, .unset, .unset] [(.int (31 : Int32)), (.int (p1 &&& (2147483647 : Int32)))]))
    refine Goes.go (fun _ kst => own_irem X0.here hx rfl (hb hby at_21) rfl (by decide) kst) ?_
    obtain ⟨kk, hkk, ekk⟩ := own_modN p1 31 (by decide) (by decide)
    have hT := own_t5 ⟨kk, hkk⟩
    dsimp only at hT
    obtain ⟨hfz, hall, gg0, gg1, gg2, gg3, gg4, gg5⟩ := hT
    rw [show ((p1 &&& (2147483647 : Int32)) % (31 : Int32)) = Int32.ofNat kk from ekk]
    show Goes p e below s _ _ _ (s₁.setTop (mkF m 22 #[.val (.int p0), .val (.int p1), .val (.int (5 : Int32)), .val (.int (31 : Int32)), .unset, .unset, .unset, .unset, .unset] [(.int (Int32.ofNat kk))]))
    refine Goes.go (fun _ kst => XS.istore X0.here hx rfl (hb hby at_22) rfl (l' := #[.val (.int p0), .val (.int p1), .val (.int (5 : Int32)), .val (.int (31 : Int32)), .val (.int (Int32.ofNat kk)), .unset, .unset, .unset, .unset]) rfl kst) ?_
    show Goes p e below s _ _ _ (s₁.setTop (mkF m 24 #[.val (.int p0), .val (.int p1), .val (.int (5 : Int32)), .val (.int (31 : Int32)), .val (.int (Int32.ofNat kk)), .unset, .unset, .unset, .unset] []))
    refine Goes.go (fun _ kst => XS.iloadN X0.here hx rfl (hb hby at_24) rfl  kst) ?_
    show Goes p e below s _ _ _ (s₁.setTop (mkF m 25 #[.val (.int p0), .val (.int p1), .val (.int (5 : Int32)), .val (.int (31 : Int32)), .val (.int (Int32.ofNat kk)), .unset, .unset, .unset, .unset] [(.int (5 : Int32))]))
    obtain ⟨T105, h105, X105, e105, E105, A105, EA105, st105⟩ := own_newA X0 hx hZ (hw _ (List.mem_of_getElem? (i := 1) rfl)) e0 (g := (mkF m 25 #[.val (.int p0), .val (.int p1), .val (.int (5 : Int32)), .val (.int (31 : Int32)), .val (.int (Int32.ofNat kk)), .unset, .unset, .unset, .unset] [(.int (5 : Int32))])) rfl (hb hby at_25) rfl (n := 5) rfl (cap := 5) (Nat.le_refl _) (by decide) (by decide) (by decide) (by decide) (by decide) (by decide : _ = "[Z")
    obtain ⟨b105, g105⟩ : ∃ z, z = h0.size := ⟨_, rfl⟩
    rw [← g105] at A105 EA105 st105
    have gb105 : n0 ≤ b105 := Nat.le_trans Z0 (Nat.le_of_eq g105.symm)
    have sb105 : h0.size ≤ b105 := Nat.le_trans K0.1 (Nat.le_of_eq g105.symm)
    have Z105 := Nat.le_trans Z0 E105.1
    have K105 := Keep.ext K0 E105
    refine Goes.go st105 ?_
    show Goes p e below s _ _ _ (T105.setTop (mkF m 27 #[.val (.int p0), .val (.int p1), .val (.int (5 : Int32)), .val (.int (31 : Int32)), .val (.int (Int32.ofNat kk)), .unset, .unset, .unset, .unset] [(.ref b105)]))
    refine Goes.go (fun _ kst => XS.astore X105.here hx rfl (hb hby at_27) rfl rfl (l' := #[.val (.int p0), .val (.int p1), .val (.int (5 : Int32)), .val (.int (31 : Int32)), .val (.int (Int32.ofNat kk)), .val (.ref b105), .unset, .unset, .unset]) rfl kst) ?_
    show Goes p e below s _ _ _ (T105.setTop (mkF m 29 #[.val (.int p0), .val (.int p1), .val (.int (5 : Int32)), .val (.int (31 : Int32)), .val (.int (Int32.ofNat kk)), .val (.ref b105), .unset, .unset, .unset] []))
    refine Goes.go (fun _ kst => XS.aload X105.here hx rfl (hb hby at_29) rfl rfl  kst) ?_
    show Goes p e below s _ _ _ (T105.setTop (mkF m 31 #[.val (.int p0), .val (.int p1), .val (.int (5 : Int32)), .val (.int (31 : Int32)), .val (.int (Int32.ofNat kk)), .val (.ref b105), .unset, .unset, .unset] [(.ref b105)]))
    refine Goes.go (fun _ kst => XS.iconst X105.here hx rfl (hb hby at_31) kst) ?_
    show Goes p e below s _ _ _ (T105.setTop (mkF m 32 #[.val (.int p0), .val (.int p1), .val (.int (5 : Int32)), .val (.int (31 : Int32)), .val (.int (Int32.ofNat kk)), .val (.ref b105), .unset, .unset, .unset] [(.int (0 : Int32)), (.ref b105)]))
    refine Goes.go (fun _ kst => XS.iload X105.here hx rfl (hb hby at_32) rfl  kst) ?_
    show Goes p e below s _ _ _ (T105.setTop (mkF m 34 #[.val (.int p0), .val (.int p1), .val (.int (5 : Int32)), .val (.int (31 : Int32)), .val (.int (Int32.ofNat kk)), .val (.ref b105), .unset, .unset, .unset] [(.int (Int32.ofNat kk)), (.int (0 : Int32)), (.ref b105)]))
    obtain ⟨_, _, ⟨T106, L106, k106, n106⟩, -, X106, ⟨Lc106, hQ106, l106, y106, z106⟩, st106⟩ := Jvm.LawKit.callS X105 hx (y := (⟨"com/example/surety/surety/DecompositionAdvancePinLaw", "set", "([ZII)V"⟩ : MethodName)) hown (mvT hZ (hw _ (List.mem_of_getElem? (i := 2) rfl))) (mvT hZ (hw _ (List.mem_of_getElem? (i := 3) rfl))) (mvT hZ (hw _ (List.mem_of_getElem? (i := 4) rfl))) (mvT hZ (hw _ (List.mem_of_getElem? (i := 5) rfl))) (by decide) (backOf (W := 0) (rm1a l Z a0 hw [] b105 (0 : Int32) (Int32.ofNat kk) 5 (fun _ => 0) 0 h105 n0 Z105 A105 gb105 rfl (by decide)) hZ (hw _ (List.mem_of_getElem? (i := 5) rfl)) (hw _ (List.mem_of_getElem? (i := 4) rfl)) (by decide) (by decide)) (g := (mkF m 34 #[.val (.int p0), .val (.int p1), .val (.int (5 : Int32)), .val (.int (31 : Int32)), .val (.int (Int32.ofNat kk)), .val (.ref b105), .unset, .unset, .unset] [(.int (Int32.ofNat kk)), (.int (0 : Int32)), (.ref b105)])) rfl (by rw [hml]; rfl) (argsL := [(.ref b105), (.int (0 : Int32)), (.int (Int32.ofNat kk))]) (rest := []) (lenOf pd_0 rfl) rfl (by show 2 * 0 + _ ≤ _; exact Nat.le_of_eq rfl) (hb hby at_34) (fun _ _ => ⟨rfl, e105, (by decide : 1 + 0 ≤ _), (by decide : 5 + 0 ≤ _)⟩)
    dsimp only [Pt.U, Pt.locs, Pt.cells, Pt.slots] at X106 l106 y106 z106 st106 hQ106
    subst l106 y106 z106
    obtain ⟨h106, e106⟩ : ∃ z, T106.heap = z := ⟨_, rfl⟩
    rw [e106] at hQ106
    obtain ⟨rfl, N106q, Kq106, G106_0⟩ := hQ106
    have N106 := Fr.app N0 N106q
    have K106 := Keep.trans K105 Kq106 (allS (Or.inr sb105) all0)
    have Z106 := Nat.le_trans Z105 Kq106.1
    refine Goes.go st106 ?_
    show Goes p e below s _ _ _ (T106.setTop (mkF m 37 #[.val (.int p0), .val (.int p1), .val (.int (5 : Int32)), .val (.int (31 : Int32)), .val (.int (Int32.ofNat kk)), .val (.ref b105), .unset, .unset, .unset] []))
    refine Goes.go (fun _ kst => XS.aload X106.here hx rfl (hb hby at_37) rfl rfl  kst) ?_
    show Goes p e below s _ _ _ (T106.setTop (mkF m 39 #[.val (.int p0), .val (.int p1), .val (.int (5 : Int32)), .val (.int (31 : Int32)), .val (.int (Int32.ofNat kk)), .val (.ref b105), .unset, .unset, .unset] [(.ref b105)]))
    refine Goes.go (fun _ kst => XS.iconst X106.here hx rfl (hb hby at_39) kst) ?_
    show Goes p e below s _ _ _ (T106.setTop (mkF m 40 #[.val (.int p0), .val (.int p1), .val (.int (5 : Int32)), .val (.int (31 : Int32)), .val (.int (Int32.ofNat kk)), .val (.ref b105), .unset, .unset, .unset] [(.int (1 : Int32)), (.ref b105)]))
    refine Goes.go (fun _ kst => XS.iload X106.here hx rfl (hb hby at_40) rfl  kst) ?_
    show Goes p e below s _ _ _ (T106.setTop (mkF m 42 #[.val (.int p0), .val (.int p1), .val (.int (5 : Int32)), .val (.int (31 : Int32)), .val (.int (Int32.ofNat kk)), .val (.ref b105), .unset, .unset, .unset] [(.int (Int32.ofNat kk)), (.int (1 : Int32)), (.ref b105)]))
    obtain ⟨_, _, ⟨T107, L107, k107, n107⟩, -, X107, ⟨Lc107, hQ107, l107, y107, z107⟩, st107⟩ := Jvm.LawKit.callS X106 hx (y := (⟨"com/example/surety/surety/DecompositionAdvancePinLaw", "set", "([ZII)V"⟩ : MethodName)) hown (mvT hZ (hw _ (List.mem_of_getElem? (i := 2) rfl))) (mvT hZ (hw _ (List.mem_of_getElem? (i := 3) rfl))) (mvT hZ (hw _ (List.mem_of_getElem? (i := 4) rfl))) (mvT hZ (hw _ (List.mem_of_getElem? (i := 5) rfl))) (by decide) (backOf (W := 0) (rm1a l Z a0 hw [] b105 (1 : Int32) (Int32.ofNat kk) 5 (own_upd (fun _ => 0) 0 (nar .boolean (if (((Int32.ofNat kk) >>> ((0 : Int32) &&& 31)) &&& (1 : Int32)) = (0 : Int32) then (0 : Int32) else (1 : Int32)))) 1 h106 n0 Z106 G106_0 gb105 rfl (by decide)) hZ (hw _ (List.mem_of_getElem? (i := 5) rfl)) (hw _ (List.mem_of_getElem? (i := 4) rfl)) (by decide) (by decide)) (g := (mkF m 42 #[.val (.int p0), .val (.int p1), .val (.int (5 : Int32)), .val (.int (31 : Int32)), .val (.int (Int32.ofNat kk)), .val (.ref b105), .unset, .unset, .unset] [(.int (Int32.ofNat kk)), (.int (1 : Int32)), (.ref b105)])) rfl (by rw [hml]; rfl) (argsL := [(.ref b105), (.int (1 : Int32)), (.int (Int32.ofNat kk))]) (rest := []) (lenOf pd_0 rfl) rfl (by show 2 * 0 + _ ≤ _; exact Nat.le_of_eq rfl) (hb hby at_42) (fun _ _ => ⟨rfl, e106, (by decide : 1 + 0 ≤ _), (by decide : 5 + 0 ≤ _)⟩)
    dsimp only [Pt.U, Pt.locs, Pt.cells, Pt.slots] at X107 l107 y107 z107 st107 hQ107
    subst l107 y107 z107
    obtain ⟨h107, e107⟩ : ∃ z, T107.heap = z := ⟨_, rfl⟩
    rw [e107] at hQ107
    obtain ⟨rfl, N107q, Kq107, G107_0⟩ := hQ107
    have N107 := Fr.app N106 N107q
    have K107 := Keep.trans K106 Kq107 (allS (Or.inr sb105) all0)
    have Z107 := Nat.le_trans Z106 Kq107.1
    refine Goes.go st107 ?_
    show Goes p e below s _ _ _ (T107.setTop (mkF m 45 #[.val (.int p0), .val (.int p1), .val (.int (5 : Int32)), .val (.int (31 : Int32)), .val (.int (Int32.ofNat kk)), .val (.ref b105), .unset, .unset, .unset] []))
    refine Goes.go (fun _ kst => XS.aload X107.here hx rfl (hb hby at_45) rfl rfl  kst) ?_
    show Goes p e below s _ _ _ (T107.setTop (mkF m 47 #[.val (.int p0), .val (.int p1), .val (.int (5 : Int32)), .val (.int (31 : Int32)), .val (.int (Int32.ofNat kk)), .val (.ref b105), .unset, .unset, .unset] [(.ref b105)]))
    refine Goes.go (fun _ kst => XS.iconst X107.here hx rfl (hb hby at_47) kst) ?_
    show Goes p e below s _ _ _ (T107.setTop (mkF m 48 #[.val (.int p0), .val (.int p1), .val (.int (5 : Int32)), .val (.int (31 : Int32)), .val (.int (Int32.ofNat kk)), .val (.ref b105), .unset, .unset, .unset] [(.int (2 : Int32)), (.ref b105)]))
    refine Goes.go (fun _ kst => XS.iload X107.here hx rfl (hb hby at_48) rfl  kst) ?_
    show Goes p e below s _ _ _ (T107.setTop (mkF m 50 #[.val (.int p0), .val (.int p1), .val (.int (5 : Int32)), .val (.int (31 : Int32)), .val (.int (Int32.ofNat kk)), .val (.ref b105), .unset, .unset, .unset] [(.int (Int32.ofNat kk)), (.int (2 : Int32)), (.ref b105)]))
    obtain ⟨_, _, ⟨T108, L108, k108, n108⟩, -, X108, ⟨Lc108, hQ108, l108, y108, z108⟩, st108⟩ := Jvm.LawKit.callS X107 hx (y := (⟨"com/example/surety/surety/DecompositionAdvancePinLaw", "set", "([ZII)V"⟩ : MethodName)) hown (mvT hZ (hw _ (List.mem_of_getElem? (i := 2) rfl))) (mvT hZ (hw _ (List.mem_of_getElem? (i := 3) rfl))) (mvT hZ (hw _ (List.mem_of_getElem? (i := 4) rfl))) (mvT hZ (hw _ (List.mem_of_getElem? (i := 5) rfl))) (by decide) (backOf (W := 0) (rm1a l Z a0 hw [] b105 (2 : Int32) (Int32.ofNat kk) 5 (own_upd (own_upd (fun _ => 0) 0 (nar .boolean (if (((Int32.ofNat kk) >>> ((0 : Int32) &&& 31)) &&& (1 : Int32)) = (0 : Int32) then (0 : Int32) else (1 : Int32)))) 1 (nar .boolean (if (((Int32.ofNat kk) >>> ((1 : Int32) &&& 31)) &&& (1 : Int32)) = (0 : Int32) then (0 : Int32) else (1 : Int32)))) 2 h107 n0 Z107 G107_0 gb105 rfl (by decide)) hZ (hw _ (List.mem_of_getElem? (i := 5) rfl)) (hw _ (List.mem_of_getElem? (i := 4) rfl)) (by decide) (by decide)) (g := (mkF m 50 #[.val (.int p0), .val (.int p1), .val (.int (5 : Int32)), .val (.int (31 : Int32)), .val (.int (Int32.ofNat kk)), .val (.ref b105), .unset, .unset, .unset] [(.int (Int32.ofNat kk)), (.int (2 : Int32)), (.ref b105)])) rfl (by rw [hml]; rfl) (argsL := [(.ref b105), (.int (2 : Int32)), (.int (Int32.ofNat kk))]) (rest := []) (lenOf pd_0 rfl) rfl (by show 2 * 0 + _ ≤ _; exact Nat.le_of_eq rfl) (hb hby at_50) (fun _ _ => ⟨rfl, e107, (by decide : 1 + 0 ≤ _), (by decide : 5 + 0 ≤ _)⟩)
    dsimp only [Pt.U, Pt.locs, Pt.cells, Pt.slots] at X108 l108 y108 z108 st108 hQ108
    subst l108 y108 z108
    obtain ⟨h108, e108⟩ : ∃ z, T108.heap = z := ⟨_, rfl⟩
    rw [e108] at hQ108
    obtain ⟨rfl, N108q, Kq108, G108_0⟩ := hQ108
    have N108 := Fr.app N107 N108q
    have K108 := Keep.trans K107 Kq108 (allS (Or.inr sb105) all0)
    have Z108 := Nat.le_trans Z107 Kq108.1
    refine Goes.go st108 ?_
    show Goes p e below s _ _ _ (T108.setTop (mkF m 53 #[.val (.int p0), .val (.int p1), .val (.int (5 : Int32)), .val (.int (31 : Int32)), .val (.int (Int32.ofNat kk)), .val (.ref b105), .unset, .unset, .unset] []))
    refine Goes.go (fun _ kst => XS.aload X108.here hx rfl (hb hby at_53) rfl rfl  kst) ?_
    show Goes p e below s _ _ _ (T108.setTop (mkF m 55 #[.val (.int p0), .val (.int p1), .val (.int (5 : Int32)), .val (.int (31 : Int32)), .val (.int (Int32.ofNat kk)), .val (.ref b105), .unset, .unset, .unset] [(.ref b105)]))
    refine Goes.go (fun _ kst => XS.iconst X108.here hx rfl (hb hby at_55) kst) ?_
    show Goes p e below s _ _ _ (T108.setTop (mkF m 56 #[.val (.int p0), .val (.int p1), .val (.int (5 : Int32)), .val (.int (31 : Int32)), .val (.int (Int32.ofNat kk)), .val (.ref b105), .unset, .unset, .unset] [(.int (3 : Int32)), (.ref b105)]))
    refine Goes.go (fun _ kst => XS.iload X108.here hx rfl (hb hby at_56) rfl  kst) ?_
    show Goes p e below s _ _ _ (T108.setTop (mkF m 58 #[.val (.int p0), .val (.int p1), .val (.int (5 : Int32)), .val (.int (31 : Int32)), .val (.int (Int32.ofNat kk)), .val (.ref b105), .unset, .unset, .unset] [(.int (Int32.ofNat kk)), (.int (3 : Int32)), (.ref b105)]))
    obtain ⟨_, _, ⟨T109, L109, k109, n109⟩, -, X109, ⟨Lc109, hQ109, l109, y109, z109⟩, st109⟩ := Jvm.LawKit.callS X108 hx (y := (⟨"com/example/surety/surety/DecompositionAdvancePinLaw", "set", "([ZII)V"⟩ : MethodName)) hown (mvT hZ (hw _ (List.mem_of_getElem? (i := 2) rfl))) (mvT hZ (hw _ (List.mem_of_getElem? (i := 3) rfl))) (mvT hZ (hw _ (List.mem_of_getElem? (i := 4) rfl))) (mvT hZ (hw _ (List.mem_of_getElem? (i := 5) rfl))) (by decide) (backOf (W := 0) (rm1a l Z a0 hw [] b105 (3 : Int32) (Int32.ofNat kk) 5 (own_upd (own_upd (own_upd (fun _ => 0) 0 (nar .boolean (if (((Int32.ofNat kk) >>> ((0 : Int32) &&& 31)) &&& (1 : Int32)) = (0 : Int32) then (0 : Int32) else (1 : Int32)))) 1 (nar .boolean (if (((Int32.ofNat kk) >>> ((1 : Int32) &&& 31)) &&& (1 : Int32)) = (0 : Int32) then (0 : Int32) else (1 : Int32)))) 2 (nar .boolean (if (((Int32.ofNat kk) >>> ((2 : Int32) &&& 31)) &&& (1 : Int32)) = (0 : Int32) then (0 : Int32) else (1 : Int32)))) 3 h108 n0 Z108 G108_0 gb105 rfl (by decide)) hZ (hw _ (List.mem_of_getElem? (i := 5) rfl)) (hw _ (List.mem_of_getElem? (i := 4) rfl)) (by decide) (by decide)) (g := (mkF m 58 #[.val (.int p0), .val (.int p1), .val (.int (5 : Int32)), .val (.int (31 : Int32)), .val (.int (Int32.ofNat kk)), .val (.ref b105), .unset, .unset, .unset] [(.int (Int32.ofNat kk)), (.int (3 : Int32)), (.ref b105)])) rfl (by rw [hml]; rfl) (argsL := [(.ref b105), (.int (3 : Int32)), (.int (Int32.ofNat kk))]) (rest := []) (lenOf pd_0 rfl) rfl (by show 2 * 0 + _ ≤ _; exact Nat.le_of_eq rfl) (hb hby at_58) (fun _ _ => ⟨rfl, e108, (by decide : 1 + 0 ≤ _), (by decide : 5 + 0 ≤ _)⟩)
    dsimp only [Pt.U, Pt.locs, Pt.cells, Pt.slots] at X109 l109 y109 z109 st109 hQ109
    subst l109 y109 z109
    obtain ⟨h109, e109⟩ : ∃ z, T109.heap = z := ⟨_, rfl⟩
    rw [e109] at hQ109
    obtain ⟨rfl, N109q, Kq109, G109_0⟩ := hQ109
    have N109 := Fr.app N108 N109q
    have K109 := Keep.trans K108 Kq109 (allS (Or.inr sb105) all0)
    have Z109 := Nat.le_trans Z108 Kq109.1
    refine Goes.go st109 ?_
    show Goes p e below s _ _ _ (T109.setTop (mkF m 61 #[.val (.int p0), .val (.int p1), .val (.int (5 : Int32)), .val (.int (31 : Int32)), .val (.int (Int32.ofNat kk)), .val (.ref b105), .unset, .unset, .unset] []))
    refine Goes.go (fun _ kst => XS.aload X109.here hx rfl (hb hby at_61) rfl rfl  kst) ?_
    show Goes p e below s _ _ _ (T109.setTop (mkF m 63 #[.val (.int p0), .val (.int p1), .val (.int (5 : Int32)), .val (.int (31 : Int32)), .val (.int (Int32.ofNat kk)), .val (.ref b105), .unset, .unset, .unset] [(.ref b105)]))
    refine Goes.go (fun _ kst => XS.iconst X109.here hx rfl (hb hby at_63) kst) ?_
    show Goes p e below s _ _ _ (T109.setTop (mkF m 64 #[.val (.int p0), .val (.int p1), .val (.int (5 : Int32)), .val (.int (31 : Int32)), .val (.int (Int32.ofNat kk)), .val (.ref b105), .unset, .unset, .unset] [(.int (4 : Int32)), (.ref b105)]))
    refine Goes.go (fun _ kst => XS.iload X109.here hx rfl (hb hby at_64) rfl  kst) ?_
    show Goes p e below s _ _ _ (T109.setTop (mkF m 66 #[.val (.int p0), .val (.int p1), .val (.int (5 : Int32)), .val (.int (31 : Int32)), .val (.int (Int32.ofNat kk)), .val (.ref b105), .unset, .unset, .unset] [(.int (Int32.ofNat kk)), (.int (4 : Int32)), (.ref b105)]))
    obtain ⟨_, _, ⟨T110, L110, k110, n110⟩, -, X110, ⟨Lc110, hQ110, l110, y110, z110⟩, st110⟩ := Jvm.LawKit.callS X109 hx (y := (⟨"com/example/surety/surety/DecompositionAdvancePinLaw", "set", "([ZII)V"⟩ : MethodName)) hown (mvT hZ (hw _ (List.mem_of_getElem? (i := 2) rfl))) (mvT hZ (hw _ (List.mem_of_getElem? (i := 3) rfl))) (mvT hZ (hw _ (List.mem_of_getElem? (i := 4) rfl))) (mvT hZ (hw _ (List.mem_of_getElem? (i := 5) rfl))) (by decide) (backOf (W := 0) (rm1a l Z a0 hw [] b105 (4 : Int32) (Int32.ofNat kk) 5 (own_upd (own_upd (own_upd (own_upd (fun _ => 0) 0 (nar .boolean (if (((Int32.ofNat kk) >>> ((0 : Int32) &&& 31)) &&& (1 : Int32)) = (0 : Int32) then (0 : Int32) else (1 : Int32)))) 1 (nar .boolean (if (((Int32.ofNat kk) >>> ((1 : Int32) &&& 31)) &&& (1 : Int32)) = (0 : Int32) then (0 : Int32) else (1 : Int32)))) 2 (nar .boolean (if (((Int32.ofNat kk) >>> ((2 : Int32) &&& 31)) &&& (1 : Int32)) = (0 : Int32) then (0 : Int32) else (1 : Int32)))) 3 (nar .boolean (if (((Int32.ofNat kk) >>> ((3 : Int32) &&& 31)) &&& (1 : Int32)) = (0 : Int32) then (0 : Int32) else (1 : Int32)))) 4 h109 n0 Z109 G109_0 gb105 rfl (by decide)) hZ (hw _ (List.mem_of_getElem? (i := 5) rfl)) (hw _ (List.mem_of_getElem? (i := 4) rfl)) (by decide) (by decide)) (g := (mkF m 66 #[.val (.int p0), .val (.int p1), .val (.int (5 : Int32)), .val (.int (31 : Int32)), .val (.int (Int32.ofNat kk)), .val (.ref b105), .unset, .unset, .unset] [(.int (Int32.ofNat kk)), (.int (4 : Int32)), (.ref b105)])) rfl (by rw [hml]; rfl) (argsL := [(.ref b105), (.int (4 : Int32)), (.int (Int32.ofNat kk))]) (rest := []) (lenOf pd_0 rfl) rfl (by show 2 * 0 + _ ≤ _; exact Nat.le_of_eq rfl) (hb hby at_66) (fun _ _ => ⟨rfl, e109, (by decide : 1 + 0 ≤ _), (by decide : 5 + 0 ≤ _)⟩)
    dsimp only [Pt.U, Pt.locs, Pt.cells, Pt.slots] at X110 l110 y110 z110 st110 hQ110
    subst l110 y110 z110
    obtain ⟨h110, e110⟩ : ∃ z, T110.heap = z := ⟨_, rfl⟩
    rw [e110] at hQ110
    obtain ⟨rfl, N110q, Kq110, G110_0⟩ := hQ110
    have N110 := Fr.app N109 N110q
    have K110 := Keep.trans K109 Kq110 (allS (Or.inr sb105) all0)
    have Z110 := Nat.le_trans Z109 Kq110.1
    refine Goes.go st110 ?_
    show Goes p e below s _ _ _ (T110.setTop (mkF m 69 #[.val (.int p0), .val (.int p1), .val (.int (5 : Int32)), .val (.int (31 : Int32)), .val (.int (Int32.ofNat kk)), .val (.ref b105), .unset, .unset, .unset] []))
    refine Goes.go (fun _ kst => XS.aload X110.here hx rfl (hb hby at_69) rfl rfl  kst) ?_
    show Goes p e below s _ _ _ (T110.setTop (mkF m 71 #[.val (.int p0), .val (.int p1), .val (.int (5 : Int32)), .val (.int (31 : Int32)), .val (.int (Int32.ofNat kk)), .val (.ref b105), .unset, .unset, .unset] [(.ref b105)]))
    refine Goes.go (fun _ kst => XS.iconst X110.here hx rfl (hb hby at_71) kst) ?_
    show Goes p e below s _ _ _ (T110.setTop (mkF m 72 #[.val (.int p0), .val (.int p1), .val (.int (5 : Int32)), .val (.int (31 : Int32)), .val (.int (Int32.ofNat kk)), .val (.ref b105), .unset, .unset, .unset] [(.int (5 : Int32)), (.ref b105)]))
    refine Goes.go (fun _ kst => XS.iload X110.here hx rfl (hb hby at_72) rfl  kst) ?_
    show Goes p e below s _ _ _ (T110.setTop (mkF m 74 #[.val (.int p0), .val (.int p1), .val (.int (5 : Int32)), .val (.int (31 : Int32)), .val (.int (Int32.ofNat kk)), .val (.ref b105), .unset, .unset, .unset] [(.int (Int32.ofNat kk)), (.int (5 : Int32)), (.ref b105)]))
    obtain ⟨_, _, ⟨T111, L111, k111, n111⟩, -, X111, ⟨Lc111, hQ111, l111, y111, z111⟩, st111⟩ := Jvm.LawKit.callS X110 hx (y := (⟨"com/example/surety/surety/DecompositionAdvancePinLaw", "set", "([ZII)V"⟩ : MethodName)) hown (mvT hZ (hw _ (List.mem_of_getElem? (i := 2) rfl))) (mvT hZ (hw _ (List.mem_of_getElem? (i := 3) rfl))) (mvT hZ (hw _ (List.mem_of_getElem? (i := 4) rfl))) (mvT hZ (hw _ (List.mem_of_getElem? (i := 5) rfl))) (by decide) (backOf (W := 0) (rm1b l Z a0 hw [] b105 (5 : Int32) (Int32.ofNat kk) 5 (own_upd (own_upd (own_upd (own_upd (own_upd (fun _ => 0) 0 (nar .boolean (if (((Int32.ofNat kk) >>> ((0 : Int32) &&& 31)) &&& (1 : Int32)) = (0 : Int32) then (0 : Int32) else (1 : Int32)))) 1 (nar .boolean (if (((Int32.ofNat kk) >>> ((1 : Int32) &&& 31)) &&& (1 : Int32)) = (0 : Int32) then (0 : Int32) else (1 : Int32)))) 2 (nar .boolean (if (((Int32.ofNat kk) >>> ((2 : Int32) &&& 31)) &&& (1 : Int32)) = (0 : Int32) then (0 : Int32) else (1 : Int32)))) 3 (nar .boolean (if (((Int32.ofNat kk) >>> ((3 : Int32) &&& 31)) &&& (1 : Int32)) = (0 : Int32) then (0 : Int32) else (1 : Int32)))) 4 (nar .boolean (if (((Int32.ofNat kk) >>> ((4 : Int32) &&& 31)) &&& (1 : Int32)) = (0 : Int32) then (0 : Int32) else (1 : Int32)))) 5 h110 n0 Z110 G110_0 gb105 rfl (by decide) (by decide)) hZ (hw _ (List.mem_of_getElem? (i := 5) rfl)) (hw _ (List.mem_of_getElem? (i := 4) rfl)) (by decide) (by decide)) (g := (mkF m 74 #[.val (.int p0), .val (.int p1), .val (.int (5 : Int32)), .val (.int (31 : Int32)), .val (.int (Int32.ofNat kk)), .val (.ref b105), .unset, .unset, .unset] [(.int (Int32.ofNat kk)), (.int (5 : Int32)), (.ref b105)])) rfl (by rw [hml]; rfl) (argsL := [(.ref b105), (.int (5 : Int32)), (.int (Int32.ofNat kk))]) (rest := []) (lenOf pd_0 rfl) rfl (by show 2 * 0 + _ ≤ _; exact Nat.le_of_eq rfl) (hb hby at_74) (fun _ _ => ⟨rfl, e110, (by decide : 1 + 0 ≤ _), (by decide : 5 + 0 ≤ _)⟩)
    dsimp only [Pt.U, Pt.locs, Pt.cells, Pt.slots] at X111 l111 y111 z111 st111 hQ111
    subst l111 y111 z111
    obtain ⟨rfl, N111q, e111⟩ := hQ111
    have N111 := Fr.app N110 N111q
    refine Goes.go st111 ?_
    have An112 := G110_0
    generalize hv_vv : (own_upd (own_upd (own_upd (own_upd (own_upd (fun _ => 0) 0 (nar .boolean (if (((Int32.ofNat kk) >>> ((0 : Int32) &&& 31)) &&& (1 : Int32)) = (0 : Int32) then (0 : Int32) else (1 : Int32)))) 1 (nar .boolean (if (((Int32.ofNat kk) >>> ((1 : Int32) &&& 31)) &&& (1 : Int32)) = (0 : Int32) then (0 : Int32) else (1 : Int32)))) 2 (nar .boolean (if (((Int32.ofNat kk) >>> ((2 : Int32) &&& 31)) &&& (1 : Int32)) = (0 : Int32) then (0 : Int32) else (1 : Int32)))) 3 (nar .boolean (if (((Int32.ofNat kk) >>> ((3 : Int32) &&& 31)) &&& (1 : Int32)) = (0 : Int32) then (0 : Int32) else (1 : Int32)))) 4 (nar .boolean (if (((Int32.ofNat kk) >>> ((4 : Int32) &&& 31)) &&& (1 : Int32)) = (0 : Int32) then (0 : Int32) else (1 : Int32)))) = vv at An112 hfz hall gg0 gg1 gg2 gg3 gg4 gg5
    show Goes p e below s _ _ _ (T111.setTop (mkF m 77 #[.val (.int p0), .val (.int p1), .val (.int (5 : Int32)), .val (.int (31 : Int32)), .val (.int (Int32.ofNat kk)), .val (.ref b105), .unset, .unset, .unset] []))
    refine Goes.go (fun _ kst => XS.aload X111.here hx rfl (hb hby at_77) rfl rfl  kst) ?_
    show Goes p e below s _ _ _ (T111.setTop (mkF m 79 #[.val (.int p0), .val (.int p1), .val (.int (5 : Int32)), .val (.int (31 : Int32)), .val (.int (Int32.ofNat kk)), .val (.ref b105), .unset, .unset, .unset] [(.ref b105)]))
    obtain ⟨_, _, ⟨T113, L113, k113, n113⟩, -, X113, ⟨Lc113, hQ113, l113, y113, z113⟩, st113⟩ := Jvm.LawKit.callS X111 hx (y := (⟨"com/example/surety/surety/Decomposition", "advance", "([Z)Z"⟩ : MethodName)) hown (mvT hZ (hw _ (List.mem_of_getElem? (i := 6) rfl))) (mvT hZ (hw _ (List.mem_of_getElem? (i := 7) rfl))) (mvT hZ (hw _ (List.mem_of_getElem? (i := 8) rfl))) (mvT hZ (hw _ (List.mem_of_getElem? (i := 9) rfl))) (by decide) (backOf (W := 0) (rm2 l Z a0 hw [] b105 5 vv h110 n0 Z110 An112 gb105 hfz) hZ (hw _ (List.mem_of_getElem? (i := 9) rfl)) (hw _ (List.mem_of_getElem? (i := 8) rfl)) (by decide) (by decide)) (g := (mkF m 79 #[.val (.int p0), .val (.int p1), .val (.int (5 : Int32)), .val (.int (31 : Int32)), .val (.int (Int32.ofNat kk)), .val (.ref b105), .unset, .unset, .unset] [(.ref b105)])) rfl (by rw [hml]; rfl) (argsL := [(.ref b105)]) (rest := []) (lenOf pd_1 rfl) rfl (by show 2 * 0 + _ ≤ _; exact Nat.le_of_eq rfl) (hb hby at_79) (fun _ _ => ⟨rfl, e111, (by decide : 1 + 0 ≤ _), (by decide : 5 + 0 ≤ _)⟩)
    dsimp only [Pt.U, Pt.locs, Pt.cells, Pt.slots] at X113 l113 y113 z113 st113 hQ113
    subst l113 y113 z113
    obtain ⟨h113, e113⟩ : ∃ z, T113.heap = z := ⟨_, rfl⟩
    rw [e113] at hQ113
    obtain ⟨rfl, N113q, Kq113, A113⟩ := hQ113
    have N113 := Fr.app N111 N113q
    have K113 := Keep.trans K110 Kq113 (allS (Or.inr sb105) all0)
    have Z113 := Nat.le_trans Z110 Kq113.1
    refine Goes.go st113 ?_
    show Goes p e below s _ _ _ (T113.setTop (mkF m 82 #[.val (.int p0), .val (.int p1), .val (.int (5 : Int32)), .val (.int (31 : Int32)), .val (.int (Int32.ofNat kk)), .val (.ref b105), .unset, .unset, .unset] [(.int (own_all (own_W vv 5) 5 0))]))
    refine Goes.go (fun _ kst => XS.istore X113.here hx rfl (hb hby at_82) rfl (l' := #[.val (.int p0), .val (.int p1), .val (.int (5 : Int32)), .val (.int (31 : Int32)), .val (.int (Int32.ofNat kk)), .val (.ref b105), .val (.int (own_all (own_W vv 5) 5 0)), .unset, .unset]) rfl kst) ?_
    show Goes p e below s _ _ _ (T113.setTop (mkF m 84 #[.val (.int p0), .val (.int p1), .val (.int (5 : Int32)), .val (.int (31 : Int32)), .val (.int (Int32.ofNat kk)), .val (.ref b105), .val (.int (own_all (own_W vv 5) 5 0)), .unset, .unset] []))
    refine Goes.go (fun _ kst => XS.iload X113.here hx rfl (hb hby at_84) rfl  kst) ?_
    show Goes p e below s _ _ _ (T113.setTop (mkF m 86 #[.val (.int p0), .val (.int p1), .val (.int (5 : Int32)), .val (.int (31 : Int32)), .val (.int (Int32.ofNat kk)), .val (.ref b105), .val (.int (own_all (own_W vv 5) 5 0)), .unset, .unset] [(.int (Int32.ofNat kk))]))
    refine Goes.go (fun _ kst => XS.iconst X113.here hx rfl (hb hby at_86) kst) ?_
    show Goes p e below s _ _ _ (T113.setTop (mkF m 87 #[.val (.int p0), .val (.int p1), .val (.int (5 : Int32)), .val (.int (31 : Int32)), .val (.int (Int32.ofNat kk)), .val (.ref b105), .val (.int (own_all (own_W vv 5) 5 0)), .unset, .unset] [(.int (1 : Int32)), (.int (Int32.ofNat kk))]))
    refine Goes.go (fun _ kst => XS.iadd X113.here hx rfl (hb hby at_87) rfl kst) ?_
    show Goes p e below s _ _ _ (T113.setTop (mkF m 88 #[.val (.int p0), .val (.int p1), .val (.int (5 : Int32)), .val (.int (31 : Int32)), .val (.int (Int32.ofNat kk)), .val (.ref b105), .val (.int (own_all (own_W vv 5) 5 0)), .unset, .unset] [(.int ((Int32.ofNat kk) + (1 : Int32)))]))
    refine Goes.go (fun _ kst => XS.istore X113.here hx rfl (hb hby at_88) rfl (l' := #[.val (.int p0), .val (.int p1), .val (.int (5 : Int32)), .val (.int (31 : Int32)), .val (.int (Int32.ofNat kk)), .val (.ref b105), .val (.int (own_all (own_W vv 5) 5 0)), .val (.int ((Int32.ofNat kk) + (1 : Int32))), .unset]) rfl kst) ?_
    show Goes p e below s _ _ _ (T113.setTop (mkF m 90 #[.val (.int p0), .val (.int p1), .val (.int (5 : Int32)), .val (.int (31 : Int32)), .val (.int (Int32.ofNat kk)), .val (.ref b105), .val (.int (own_all (own_W vv 5) 5 0)), .val (.int ((Int32.ofNat kk) + (1 : Int32))), .unset] []))
    refine Goes.go (fun _ kst => XS.aload X113.here hx rfl (hb hby at_90) rfl rfl  kst) ?_
    show Goes p e below s _ _ _ (T113.setTop (mkF m 92 #[.val (.int p0), .val (.int p1), .val (.int (5 : Int32)), .val (.int (31 : Int32)), .val (.int (Int32.ofNat kk)), .val (.ref b105), .val (.int (own_all (own_W vv 5) 5 0)), .val (.int ((Int32.ofNat kk) + (1 : Int32))), .unset] [(.ref b105)]))
    refine Goes.go (own_len X113 hx hZ e113 A113 (g := (mkF m 92 #[.val (.int p0), .val (.int p1), .val (.int (5 : Int32)), .val (.int (31 : Int32)), .val (.int (Int32.ofNat kk)), .val (.ref b105), .val (.int (own_all (own_W vv 5) 5 0)), .val (.int ((Int32.ofNat kk) + (1 : Int32))), .unset] [(.ref b105)])) rfl rfl (hb hby at_92)) ?_
    show Goes p e below s _ _ _ (T113.setTop (mkF m 93 #[.val (.int p0), .val (.int p1), .val (.int (5 : Int32)), .val (.int (31 : Int32)), .val (.int (Int32.ofNat kk)), .val (.ref b105), .val (.int (own_all (own_W vv 5) 5 0)), .val (.int ((Int32.ofNat kk) + (1 : Int32))), .unset] [(.int (5 : Int32))]))
    refine Goes.go (fun _ kst => XS.iloadN X113.here hx rfl (hb hby at_93) rfl  kst) ?_
    show Goes p e below s _ _ _ (T113.setTop (mkF m 94 #[.val (.int p0), .val (.int p1), .val (.int (5 : Int32)), .val (.int (31 : Int32)), .val (.int (Int32.ofNat kk)), .val (.ref b105), .val (.int (own_all (own_W vv 5) 5 0)), .val (.int ((Int32.ofNat kk) + (1 : Int32))), .unset] [(.int (5 : Int32)), (.int (5 : Int32))]))
    have hc94_114 : (5 : Int32) = (5 : Int32) := (by decide)
    refine Goes.go (fun _ kst => XS.icmpNo X113.here hx rfl (hb hby at_94) rfl (teq hc94_114).2 kst) ?_
    show Goes p e below s _ _ _ (T113.setTop (mkF m 97 #[.val (.int p0), .val (.int p1), .val (.int (5 : Int32)), .val (.int (31 : Int32)), .val (.int (Int32.ofNat kk)), .val (.ref b105), .val (.int (own_all (own_W vv 5) 5 0)), .val (.int ((Int32.ofNat kk) + (1 : Int32))), .unset] []))
    refine Goes.go (fun _ kst => XS.iload X113.here hx rfl (hb hby at_97) rfl  kst) ?_
    show Goes p e below s _ _ _ (T113.setTop (mkF m 99 #[.val (.int p0), .val (.int p1), .val (.int (5 : Int32)), .val (.int (31 : Int32)), .val (.int (Int32.ofNat kk)), .val (.ref b105), .val (.int (own_all (own_W vv 5) 5 0)), .val (.int ((Int32.ofNat kk) + (1 : Int32))), .unset] [(.int (own_all (own_W vv 5) 5 0))]))
    refine Goes.go (fun _ kst => XS.iload X113.here hx rfl (hb hby at_99) rfl  kst) ?_
    show Goes p e below s _ _ _ (T113.setTop (mkF m 101 #[.val (.int p0), .val (.int p1), .val (.int (5 : Int32)), .val (.int (31 : Int32)), .val (.int (Int32.ofNat kk)), .val (.ref b105), .val (.int (own_all (own_W vv 5) 5 0)), .val (.int ((Int32.ofNat kk) + (1 : Int32))), .unset] [(.int ((Int32.ofNat kk) + (1 : Int32))), (.int (own_all (own_W vv 5) 5 0))]))
    refine Goes.go (fun _ kst => XS.iloadN X113.here hx rfl (hb hby at_101) rfl  kst) ?_
    show Goes p e below s _ _ _ (T113.setTop (mkF m 102 #[.val (.int p0), .val (.int p1), .val (.int (5 : Int32)), .val (.int (31 : Int32)), .val (.int (Int32.ofNat kk)), .val (.ref b105), .val (.int (own_all (own_W vv 5) 5 0)), .val (.int ((Int32.ofNat kk) + (1 : Int32))), .unset] [(.int (31 : Int32)), (.int ((Int32.ofNat kk) + (1 : Int32))), (.int (own_all (own_W vv 5) 5 0))]))
    obtain ⟨z115_s0, hz115_s0⟩ : ∃ z : Int32, z = if ((Int32.ofNat kk) + (1 : Int32)) = (31 : Int32) then (0 : Int32) else (1 : Int32) := ⟨_, rfl⟩
    have sm115 : ∀ t, Steps p.tables e below (T113.setTop (mkF m 110 #[.val (.int p0), .val (.int p1), .val (.int (5 : Int32)), .val (.int (31 : Int32)), .val (.int (Int32.ofNat kk)), .val (.ref b105), .val (.int (own_all (own_W vv 5) 5 0)), .val (.int ((Int32.ofNat kk) + (1 : Int32))), .unset] [(.int z115_s0), (.int (own_all (own_W vv 5) 5 0))])) t → Steps p.tables e below (T113.setTop (mkF m 102 #[.val (.int p0), .val (.int p1), .val (.int (5 : Int32)), .val (.int (31 : Int32)), .val (.int (Int32.ofNat kk)), .val (.ref b105), .val (.int (own_all (own_W vv 5) 5 0)), .val (.int ((Int32.ofNat kk) + (1 : Int32))), .unset] [(.int (31 : Int32)), (.int ((Int32.ofNat kk) + (1 : Int32))), (.int (own_all (own_W vv 5) 5 0))])) t := by
      intro t kst
      by_cases hc102_115 : ((Int32.ofNat kk) + (1 : Int32)) = (31 : Int32)
      · have kst2 : Steps p.tables e below (T113.setTop (mkF m 110 #[.val (.int p0), .val (.int p1), .val (.int (5 : Int32)), .val (.int (31 : Int32)), .val (.int (Int32.ofNat kk)), .val (.ref b105), .val (.int (own_all (own_W vv 5) 5 0)), .val (.int ((Int32.ofNat kk) + (1 : Int32))), .unset] [(.int (0 : Int32)), (.int (own_all (own_W vv 5) 5 0))])) t := by simpa only [hz115_s0, if_pos hc102_115] using kst
        show Steps p.tables e below (T113.setTop (mkF m 102 #[.val (.int p0), .val (.int p1), .val (.int (5 : Int32)), .val (.int (31 : Int32)), .val (.int (Int32.ofNat kk)), .val (.ref b105), .val (.int (own_all (own_W vv 5) 5 0)), .val (.int ((Int32.ofNat kk) + (1 : Int32))), .unset] [(.int (31 : Int32)), (.int ((Int32.ofNat kk) + (1 : Int32))), (.int (own_all (own_W vv 5) 5 0))])) _
        refine XS.icmpYes X113.here hx rfl (pc0 := 102) (pc' := 109) rfl (hb hby at_102) rfl (teq hc102_115).1 (by decide) (by decide) ?_
        show Steps p.tables e below (T113.setTop (mkF m 109 #[.val (.int p0), .val (.int p1), .val (.int (5 : Int32)), .val (.int (31 : Int32)), .val (.int (Int32.ofNat kk)), .val (.ref b105), .val (.int (own_all (own_W vv 5) 5 0)), .val (.int ((Int32.ofNat kk) + (1 : Int32))), .unset] [(.int (own_all (own_W vv 5) 5 0))])) _
        refine XS.iconst X113.here hx rfl (hb hby at_109) ?_
        exact kst2
      · have kst2 : Steps p.tables e below (T113.setTop (mkF m 110 #[.val (.int p0), .val (.int p1), .val (.int (5 : Int32)), .val (.int (31 : Int32)), .val (.int (Int32.ofNat kk)), .val (.ref b105), .val (.int (own_all (own_W vv 5) 5 0)), .val (.int ((Int32.ofNat kk) + (1 : Int32))), .unset] [(.int (1 : Int32)), (.int (own_all (own_W vv 5) 5 0))])) t := by simpa only [hz115_s0, if_neg hc102_115] using kst
        show Steps p.tables e below (T113.setTop (mkF m 102 #[.val (.int p0), .val (.int p1), .val (.int (5 : Int32)), .val (.int (31 : Int32)), .val (.int (Int32.ofNat kk)), .val (.ref b105), .val (.int (own_all (own_W vv 5) 5 0)), .val (.int ((Int32.ofNat kk) + (1 : Int32))), .unset] [(.int (31 : Int32)), (.int ((Int32.ofNat kk) + (1 : Int32))), (.int (own_all (own_W vv 5) 5 0))])) _
        refine XS.icmpNo X113.here hx rfl (hb hby at_102) rfl (feq hc102_115).1 ?_
        show Steps p.tables e below (T113.setTop (mkF m 105 #[.val (.int p0), .val (.int p1), .val (.int (5 : Int32)), .val (.int (31 : Int32)), .val (.int (Int32.ofNat kk)), .val (.ref b105), .val (.int (own_all (own_W vv 5) 5 0)), .val (.int ((Int32.ofNat kk) + (1 : Int32))), .unset] [(.int (own_all (own_W vv 5) 5 0))])) _
        refine XS.iconst X113.here hx rfl (hb hby at_105) ?_
        show Steps p.tables e below (T113.setTop (mkF m 106 #[.val (.int p0), .val (.int p1), .val (.int (5 : Int32)), .val (.int (31 : Int32)), .val (.int (Int32.ofNat kk)), .val (.ref b105), .val (.int (own_all (own_W vv 5) 5 0)), .val (.int ((Int32.ofNat kk) + (1 : Int32))), .unset] [(.int (1 : Int32)), (.int (own_all (own_W vv 5) 5 0))])) _
        refine XS.goto X113.here hx rfl (pc0 := 106) (pc' := 110) rfl (hb hby at_106) (by decide) (by decide) ?_
        exact kst2
    refine Goes.go sm115 ?_
    show Goes p e below s _ _ _ (T113.setTop (mkF m 110 #[.val (.int p0), .val (.int p1), .val (.int (5 : Int32)), .val (.int (31 : Int32)), .val (.int (Int32.ofNat kk)), .val (.ref b105), .val (.int (own_all (own_W vv 5) 5 0)), .val (.int ((Int32.ofNat kk) + (1 : Int32))), .unset] [(.int z115_s0), (.int (own_all (own_W vv 5) 5 0))]))
    have hc110_116 : (own_all (own_W vv 5) 5 0) = z115_s0 := by rw [hz115_s0]; exact hall
    refine Goes.go (fun _ kst => XS.icmpNo X113.here hx rfl (hb hby at_110) rfl (teq hc110_116).2 kst) ?_
    show Goes p e below s _ _ _ (T113.setTop (mkF m 113 #[.val (.int p0), .val (.int p1), .val (.int (5 : Int32)), .val (.int (31 : Int32)), .val (.int (Int32.ofNat kk)), .val (.ref b105), .val (.int (own_all (own_W vv 5) 5 0)), .val (.int ((Int32.ofNat kk) + (1 : Int32))), .unset] []))
    refine Goes.go (fun _ kst => XS.iconst X113.here hx rfl (hb hby at_113) kst) ?_
    show Goes p e below s _ _ _ (T113.setTop (mkF m 114 #[.val (.int p0), .val (.int p1), .val (.int (5 : Int32)), .val (.int (31 : Int32)), .val (.int (Int32.ofNat kk)), .val (.ref b105), .val (.int (own_all (own_W vv 5) 5 0)), .val (.int ((Int32.ofNat kk) + (1 : Int32))), .unset] [(.int (1 : Int32))]))
    refine Goes.go (fun _ kst => XS.goto X113.here hx rfl (pc0 := 114) (pc' := 118) rfl (hb hby at_114) (by decide) (by decide) kst) ?_
    show Goes p e below s _ _ _ (T113.setTop (mkF m 118 #[.val (.int p0), .val (.int p1), .val (.int (5 : Int32)), .val (.int (31 : Int32)), .val (.int (Int32.ofNat kk)), .val (.ref b105), .val (.int (own_all (own_W vv 5) 5 0)), .val (.int ((Int32.ofNat kk) + (1 : Int32))), .unset] [(.int (1 : Int32))]))
    refine Goes.go (fun _ kst => XS.istore X113.here hx rfl (hb hby at_118) rfl (l' := #[.val (.int p0), .val (.int p1), .val (.int (5 : Int32)), .val (.int (31 : Int32)), .val (.int (Int32.ofNat kk)), .val (.ref b105), .val (.int (own_all (own_W vv 5) 5 0)), .val (.int ((Int32.ofNat kk) + (1 : Int32))), .val (.int (1 : Int32))]) rfl kst) ?_
    show Goes p e below s _ _ _ (T113.setTop (mkF m 120 #[.val (.int p0), .val (.int p1), .val (.int (5 : Int32)), .val (.int (31 : Int32)), .val (.int (Int32.ofNat kk)), .val (.ref b105), .val (.int (own_all (own_W vv 5) 5 0)), .val (.int ((Int32.ofNat kk) + (1 : Int32))), .val (.int (1 : Int32))] []))
    refine Goes.go (fun _ kst => XS.iload X113.here hx rfl (hb hby at_120) rfl  kst) ?_
    show Goes p e below s _ _ _ (T113.setTop (mkF m 122 #[.val (.int p0), .val (.int p1), .val (.int (5 : Int32)), .val (.int (31 : Int32)), .val (.int (Int32.ofNat kk)), .val (.ref b105), .val (.int (own_all (own_W vv 5) 5 0)), .val (.int ((Int32.ofNat kk) + (1 : Int32))), .val (.int (1 : Int32))] [(.int (1 : Int32))]))
    have hc122_117 : ¬ ((1 : Int32) = (0 : Int32)) := (by decide)
    refine Goes.go (fun _ kst => XS.ifNo X113.here hx rfl (hb hby at_122) rfl ((if0 _ _).trans (feq hc122_117).1) kst) ?_
    show Goes p e below s _ _ _ (T113.setTop (mkF m 125 #[.val (.int p0), .val (.int p1), .val (.int (5 : Int32)), .val (.int (31 : Int32)), .val (.int (Int32.ofNat kk)), .val (.ref b105), .val (.int (own_all (own_W vv 5) 5 0)), .val (.int ((Int32.ofNat kk) + (1 : Int32))), .val (.int (1 : Int32))] []))
    refine Goes.go (fun _ kst => XS.aload X113.here hx rfl (hb hby at_125) rfl rfl  kst) ?_
    show Goes p e below s _ _ _ (T113.setTop (mkF m 127 #[.val (.int p0), .val (.int p1), .val (.int (5 : Int32)), .val (.int (31 : Int32)), .val (.int (Int32.ofNat kk)), .val (.ref b105), .val (.int (own_all (own_W vv 5) 5 0)), .val (.int ((Int32.ofNat kk) + (1 : Int32))), .val (.int (1 : Int32))] [(.ref b105)]))
    refine Goes.go (fun _ kst => XS.iconst X113.here hx rfl (hb hby at_127) kst) ?_
    show Goes p e below s _ _ _ (T113.setTop (mkF m 128 #[.val (.int p0), .val (.int p1), .val (.int (5 : Int32)), .val (.int (31 : Int32)), .val (.int (Int32.ofNat kk)), .val (.ref b105), .val (.int (own_all (own_W vv 5) 5 0)), .val (.int ((Int32.ofNat kk) + (1 : Int32))), .val (.int (1 : Int32))] [(.int (0 : Int32)), (.ref b105)]))
    refine Goes.go (fun _ kst => XS.iload X113.here hx rfl (hb hby at_128) rfl  kst) ?_
    show Goes p e below s _ _ _ (T113.setTop (mkF m 130 #[.val (.int p0), .val (.int p1), .val (.int (5 : Int32)), .val (.int (31 : Int32)), .val (.int (Int32.ofNat kk)), .val (.ref b105), .val (.int (own_all (own_W vv 5) 5 0)), .val (.int ((Int32.ofNat kk) + (1 : Int32))), .val (.int (1 : Int32))] [(.int ((Int32.ofNat kk) + (1 : Int32))), (.int (0 : Int32)), (.ref b105)]))
    obtain ⟨_, _, ⟨T118, L118, k118, n118⟩, -, X118, ⟨Lc118, hQ118, l118, y118, z118⟩, st118⟩ := Jvm.LawKit.callS X113 hx (y := (⟨"com/example/surety/surety/DecompositionAdvancePinLaw", "same", "([ZII)Z"⟩ : MethodName)) hown (mvT hZ (hw _ (List.mem_of_getElem? (i := 10) rfl))) (mvT hZ (hw _ (List.mem_of_getElem? (i := 11) rfl))) (mvT hZ (hw _ (List.mem_of_getElem? (i := 4) rfl))) (mvT hZ (hw _ (List.mem_of_getElem? (i := 12) rfl))) (by decide) (backOf (W := 0) (rm3 l Z a0 hw [] b105 (0 : Int32) ((Int32.ofNat kk) + (1 : Int32)) 5 (own_W vv 5) 0 h113 n0 Z113 A113 rfl (by decide)) hZ (hw _ (List.mem_of_getElem? (i := 12) rfl)) (hw _ (List.mem_of_getElem? (i := 4) rfl)) (by decide) (by decide)) (g := (mkF m 130 #[.val (.int p0), .val (.int p1), .val (.int (5 : Int32)), .val (.int (31 : Int32)), .val (.int (Int32.ofNat kk)), .val (.ref b105), .val (.int (own_all (own_W vv 5) 5 0)), .val (.int ((Int32.ofNat kk) + (1 : Int32))), .val (.int (1 : Int32))] [(.int ((Int32.ofNat kk) + (1 : Int32))), (.int (0 : Int32)), (.ref b105)])) rfl (by rw [hml]; rfl) (argsL := [(.ref b105), (.int (0 : Int32)), (.int ((Int32.ofNat kk) + (1 : Int32)))]) (rest := []) (lenOf pd_2 rfl) rfl (by show 2 * 0 + _ ≤ _; exact Nat.le_of_eq rfl) (hb hby at_130) (fun _ _ => ⟨rfl, e113, (by decide : 1 + 0 ≤ _), (by decide : 5 + 0 ≤ _)⟩)
    dsimp only [Pt.U, Pt.locs, Pt.cells, Pt.slots] at X118 l118 y118 z118 st118 hQ118
    subst l118 y118 z118
    obtain ⟨rfl, N118q, e118⟩ := hQ118
    have N118 := Fr.app N113 N118q
    refine Goes.go st118 ?_
    show Goes p e below s _ _ _ (T118.setTop (mkF m 133 #[.val (.int p0), .val (.int p1), .val (.int (5 : Int32)), .val (.int (31 : Int32)), .val (.int (Int32.ofNat kk)), .val (.ref b105), .val (.int (own_all (own_W vv 5) 5 0)), .val (.int ((Int32.ofNat kk) + (1 : Int32))), .val (.int (1 : Int32))] [(.int (f3 b105 (0 : Int32) ((Int32.ofNat kk) + (1 : Int32)) 5 (own_W vv 5) 0))]))
    have hc133_119 : ¬ ((f3 b105 (0 : Int32) ((Int32.ofNat kk) + (1 : Int32)) 5 (own_W vv 5) 0) = (0 : Int32)) := gg0
    refine Goes.go (fun _ kst => XS.ifNo X118.here hx rfl (hb hby at_133) rfl ((if0 _ _).trans (feq hc133_119).1) kst) ?_
    show Goes p e below s _ _ _ (T118.setTop (mkF m 136 #[.val (.int p0), .val (.int p1), .val (.int (5 : Int32)), .val (.int (31 : Int32)), .val (.int (Int32.ofNat kk)), .val (.ref b105), .val (.int (own_all (own_W vv 5) 5 0)), .val (.int ((Int32.ofNat kk) + (1 : Int32))), .val (.int (1 : Int32))] []))
    refine Goes.go (fun _ kst => XS.aload X118.here hx rfl (hb hby at_136) rfl rfl  kst) ?_
    show Goes p e below s _ _ _ (T118.setTop (mkF m 138 #[.val (.int p0), .val (.int p1), .val (.int (5 : Int32)), .val (.int (31 : Int32)), .val (.int (Int32.ofNat kk)), .val (.ref b105), .val (.int (own_all (own_W vv 5) 5 0)), .val (.int ((Int32.ofNat kk) + (1 : Int32))), .val (.int (1 : Int32))] [(.ref b105)]))
    refine Goes.go (fun _ kst => XS.iconst X118.here hx rfl (hb hby at_138) kst) ?_
    show Goes p e below s _ _ _ (T118.setTop (mkF m 139 #[.val (.int p0), .val (.int p1), .val (.int (5 : Int32)), .val (.int (31 : Int32)), .val (.int (Int32.ofNat kk)), .val (.ref b105), .val (.int (own_all (own_W vv 5) 5 0)), .val (.int ((Int32.ofNat kk) + (1 : Int32))), .val (.int (1 : Int32))] [(.int (1 : Int32)), (.ref b105)]))
    refine Goes.go (fun _ kst => XS.iload X118.here hx rfl (hb hby at_139) rfl  kst) ?_
    show Goes p e below s _ _ _ (T118.setTop (mkF m 141 #[.val (.int p0), .val (.int p1), .val (.int (5 : Int32)), .val (.int (31 : Int32)), .val (.int (Int32.ofNat kk)), .val (.ref b105), .val (.int (own_all (own_W vv 5) 5 0)), .val (.int ((Int32.ofNat kk) + (1 : Int32))), .val (.int (1 : Int32))] [(.int ((Int32.ofNat kk) + (1 : Int32))), (.int (1 : Int32)), (.ref b105)]))
    obtain ⟨_, _, ⟨T120, L120, k120, n120⟩, -, X120, ⟨Lc120, hQ120, l120, y120, z120⟩, st120⟩ := Jvm.LawKit.callS X118 hx (y := (⟨"com/example/surety/surety/DecompositionAdvancePinLaw", "same", "([ZII)Z"⟩ : MethodName)) hown (mvT hZ (hw _ (List.mem_of_getElem? (i := 10) rfl))) (mvT hZ (hw _ (List.mem_of_getElem? (i := 11) rfl))) (mvT hZ (hw _ (List.mem_of_getElem? (i := 4) rfl))) (mvT hZ (hw _ (List.mem_of_getElem? (i := 12) rfl))) (by decide) (backOf (W := 0) (rm3 l Z a0 hw [] b105 (1 : Int32) ((Int32.ofNat kk) + (1 : Int32)) 5 (own_W vv 5) 1 h113 n0 Z113 A113 rfl (by decide)) hZ (hw _ (List.mem_of_getElem? (i := 12) rfl)) (hw _ (List.mem_of_getElem? (i := 4) rfl)) (by decide) (by decide)) (g := (mkF m 141 #[.val (.int p0), .val (.int p1), .val (.int (5 : Int32)), .val (.int (31 : Int32)), .val (.int (Int32.ofNat kk)), .val (.ref b105), .val (.int (own_all (own_W vv 5) 5 0)), .val (.int ((Int32.ofNat kk) + (1 : Int32))), .val (.int (1 : Int32))] [(.int ((Int32.ofNat kk) + (1 : Int32))), (.int (1 : Int32)), (.ref b105)])) rfl (by rw [hml]; rfl) (argsL := [(.ref b105), (.int (1 : Int32)), (.int ((Int32.ofNat kk) + (1 : Int32)))]) (rest := []) (lenOf pd_2 rfl) rfl (by show 2 * 0 + _ ≤ _; exact Nat.le_of_eq rfl) (hb hby at_141) (fun _ _ => ⟨rfl, e118, (by decide : 1 + 0 ≤ _), (by decide : 5 + 0 ≤ _)⟩)
    dsimp only [Pt.U, Pt.locs, Pt.cells, Pt.slots] at X120 l120 y120 z120 st120 hQ120
    subst l120 y120 z120
    obtain ⟨rfl, N120q, e120⟩ := hQ120
    have N120 := Fr.app N118 N120q
    refine Goes.go st120 ?_
    show Goes p e below s _ _ _ (T120.setTop (mkF m 144 #[.val (.int p0), .val (.int p1), .val (.int (5 : Int32)), .val (.int (31 : Int32)), .val (.int (Int32.ofNat kk)), .val (.ref b105), .val (.int (own_all (own_W vv 5) 5 0)), .val (.int ((Int32.ofNat kk) + (1 : Int32))), .val (.int (1 : Int32))] [(.int (f3 b105 (1 : Int32) ((Int32.ofNat kk) + (1 : Int32)) 5 (own_W vv 5) 1))]))
    have hc144_121 : ¬ ((f3 b105 (1 : Int32) ((Int32.ofNat kk) + (1 : Int32)) 5 (own_W vv 5) 1) = (0 : Int32)) := gg1
    refine Goes.go (fun _ kst => XS.ifNo X120.here hx rfl (hb hby at_144) rfl ((if0 _ _).trans (feq hc144_121).1) kst) ?_
    show Goes p e below s _ _ _ (T120.setTop (mkF m 147 #[.val (.int p0), .val (.int p1), .val (.int (5 : Int32)), .val (.int (31 : Int32)), .val (.int (Int32.ofNat kk)), .val (.ref b105), .val (.int (own_all (own_W vv 5) 5 0)), .val (.int ((Int32.ofNat kk) + (1 : Int32))), .val (.int (1 : Int32))] []))
    refine Goes.go (fun _ kst => XS.aload X120.here hx rfl (hb hby at_147) rfl rfl  kst) ?_
    show Goes p e below s _ _ _ (T120.setTop (mkF m 149 #[.val (.int p0), .val (.int p1), .val (.int (5 : Int32)), .val (.int (31 : Int32)), .val (.int (Int32.ofNat kk)), .val (.ref b105), .val (.int (own_all (own_W vv 5) 5 0)), .val (.int ((Int32.ofNat kk) + (1 : Int32))), .val (.int (1 : Int32))] [(.ref b105)]))
    refine Goes.go (fun _ kst => XS.iconst X120.here hx rfl (hb hby at_149) kst) ?_
    show Goes p e below s _ _ _ (T120.setTop (mkF m 150 #[.val (.int p0), .val (.int p1), .val (.int (5 : Int32)), .val (.int (31 : Int32)), .val (.int (Int32.ofNat kk)), .val (.ref b105), .val (.int (own_all (own_W vv 5) 5 0)), .val (.int ((Int32.ofNat kk) + (1 : Int32))), .val (.int (1 : Int32))] [(.int (2 : Int32)), (.ref b105)]))
    refine Goes.go (fun _ kst => XS.iload X120.here hx rfl (hb hby at_150) rfl  kst) ?_
    show Goes p e below s _ _ _ (T120.setTop (mkF m 152 #[.val (.int p0), .val (.int p1), .val (.int (5 : Int32)), .val (.int (31 : Int32)), .val (.int (Int32.ofNat kk)), .val (.ref b105), .val (.int (own_all (own_W vv 5) 5 0)), .val (.int ((Int32.ofNat kk) + (1 : Int32))), .val (.int (1 : Int32))] [(.int ((Int32.ofNat kk) + (1 : Int32))), (.int (2 : Int32)), (.ref b105)]))
    obtain ⟨_, _, ⟨T122, L122, k122, n122⟩, -, X122, ⟨Lc122, hQ122, l122, y122, z122⟩, st122⟩ := Jvm.LawKit.callS X120 hx (y := (⟨"com/example/surety/surety/DecompositionAdvancePinLaw", "same", "([ZII)Z"⟩ : MethodName)) hown (mvT hZ (hw _ (List.mem_of_getElem? (i := 10) rfl))) (mvT hZ (hw _ (List.mem_of_getElem? (i := 11) rfl))) (mvT hZ (hw _ (List.mem_of_getElem? (i := 4) rfl))) (mvT hZ (hw _ (List.mem_of_getElem? (i := 12) rfl))) (by decide) (backOf (W := 0) (rm3 l Z a0 hw [] b105 (2 : Int32) ((Int32.ofNat kk) + (1 : Int32)) 5 (own_W vv 5) 2 h113 n0 Z113 A113 rfl (by decide)) hZ (hw _ (List.mem_of_getElem? (i := 12) rfl)) (hw _ (List.mem_of_getElem? (i := 4) rfl)) (by decide) (by decide)) (g := (mkF m 152 #[.val (.int p0), .val (.int p1), .val (.int (5 : Int32)), .val (.int (31 : Int32)), .val (.int (Int32.ofNat kk)), .val (.ref b105), .val (.int (own_all (own_W vv 5) 5 0)), .val (.int ((Int32.ofNat kk) + (1 : Int32))), .val (.int (1 : Int32))] [(.int ((Int32.ofNat kk) + (1 : Int32))), (.int (2 : Int32)), (.ref b105)])) rfl (by rw [hml]; rfl) (argsL := [(.ref b105), (.int (2 : Int32)), (.int ((Int32.ofNat kk) + (1 : Int32)))]) (rest := []) (lenOf pd_2 rfl) rfl (by show 2 * 0 + _ ≤ _; exact Nat.le_of_eq rfl) (hb hby at_152) (fun _ _ => ⟨rfl, e120, (by decide : 1 + 0 ≤ _), (by decide : 5 + 0 ≤ _)⟩)
    dsimp only [Pt.U, Pt.locs, Pt.cells, Pt.slots] at X122 l122 y122 z122 st122 hQ122
    subst l122 y122 z122
    obtain ⟨rfl, N122q, e122⟩ := hQ122
    have N122 := Fr.app N120 N122q
    refine Goes.go st122 ?_
    show Goes p e below s _ _ _ (T122.setTop (mkF m 155 #[.val (.int p0), .val (.int p1), .val (.int (5 : Int32)), .val (.int (31 : Int32)), .val (.int (Int32.ofNat kk)), .val (.ref b105), .val (.int (own_all (own_W vv 5) 5 0)), .val (.int ((Int32.ofNat kk) + (1 : Int32))), .val (.int (1 : Int32))] [(.int (f3 b105 (2 : Int32) ((Int32.ofNat kk) + (1 : Int32)) 5 (own_W vv 5) 2))]))
    have hc155_123 : ¬ ((f3 b105 (2 : Int32) ((Int32.ofNat kk) + (1 : Int32)) 5 (own_W vv 5) 2) = (0 : Int32)) := gg2
    refine Goes.go (fun _ kst => XS.ifNo X122.here hx rfl (hb hby at_155) rfl ((if0 _ _).trans (feq hc155_123).1) kst) ?_
    show Goes p e below s _ _ _ (T122.setTop (mkF m 158 #[.val (.int p0), .val (.int p1), .val (.int (5 : Int32)), .val (.int (31 : Int32)), .val (.int (Int32.ofNat kk)), .val (.ref b105), .val (.int (own_all (own_W vv 5) 5 0)), .val (.int ((Int32.ofNat kk) + (1 : Int32))), .val (.int (1 : Int32))] []))
    refine Goes.go (fun _ kst => XS.iconst X122.here hx rfl (hb hby at_158) kst) ?_
    show Goes p e below s _ _ _ (T122.setTop (mkF m 159 #[.val (.int p0), .val (.int p1), .val (.int (5 : Int32)), .val (.int (31 : Int32)), .val (.int (Int32.ofNat kk)), .val (.ref b105), .val (.int (own_all (own_W vv 5) 5 0)), .val (.int ((Int32.ofNat kk) + (1 : Int32))), .val (.int (1 : Int32))] [(.int (1 : Int32))]))
    refine Goes.go (fun _ kst => XS.goto X122.here hx rfl (pc0 := 159) (pc' := 163) rfl (hb hby at_159) (by decide) (by decide) kst) ?_
    show Goes p e below s _ _ _ (T122.setTop (mkF m 163 #[.val (.int p0), .val (.int p1), .val (.int (5 : Int32)), .val (.int (31 : Int32)), .val (.int (Int32.ofNat kk)), .val (.ref b105), .val (.int (own_all (own_W vv 5) 5 0)), .val (.int ((Int32.ofNat kk) + (1 : Int32))), .val (.int (1 : Int32))] [(.int (1 : Int32))]))
    refine Goes.go (fun _ kst => XS.istore X122.here hx rfl (hb hby at_163) rfl (l' := #[.val (.int p0), .val (.int p1), .val (.int (5 : Int32)), .val (.int (31 : Int32)), .val (.int (Int32.ofNat kk)), .val (.ref b105), .val (.int (own_all (own_W vv 5) 5 0)), .val (.int ((Int32.ofNat kk) + (1 : Int32))), .val (.int (1 : Int32))]) rfl kst) ?_
    show Goes p e below s _ _ _ (T122.setTop (mkF m 165 #[.val (.int p0), .val (.int p1), .val (.int (5 : Int32)), .val (.int (31 : Int32)), .val (.int (Int32.ofNat kk)), .val (.ref b105), .val (.int (own_all (own_W vv 5) 5 0)), .val (.int ((Int32.ofNat kk) + (1 : Int32))), .val (.int (1 : Int32))] []))
    refine Goes.go (fun _ kst => XS.iload X122.here hx rfl (hb hby at_165) rfl  kst) ?_
    show Goes p e below s _ _ _ (T122.setTop (mkF m 167 #[.val (.int p0), .val (.int p1), .val (.int (5 : Int32)), .val (.int (31 : Int32)), .val (.int (Int32.ofNat kk)), .val (.ref b105), .val (.int (own_all (own_W vv 5) 5 0)), .val (.int ((Int32.ofNat kk) + (1 : Int32))), .val (.int (1 : Int32))] [(.int (1 : Int32))]))
    have hc167_124 : ¬ ((1 : Int32) = (0 : Int32)) := (by decide)
    refine Goes.go (fun _ kst => XS.ifNo X122.here hx rfl (hb hby at_167) rfl ((if0 _ _).trans (feq hc167_124).1) kst) ?_
    show Goes p e below s _ _ _ (T122.setTop (mkF m 170 #[.val (.int p0), .val (.int p1), .val (.int (5 : Int32)), .val (.int (31 : Int32)), .val (.int (Int32.ofNat kk)), .val (.ref b105), .val (.int (own_all (own_W vv 5) 5 0)), .val (.int ((Int32.ofNat kk) + (1 : Int32))), .val (.int (1 : Int32))] []))
    refine Goes.go (fun _ kst => XS.aload X122.here hx rfl (hb hby at_170) rfl rfl  kst) ?_
    show Goes p e below s _ _ _ (T122.setTop (mkF m 172 #[.val (.int p0), .val (.int p1), .val (.int (5 : Int32)), .val (.int (31 : Int32)), .val (.int (Int32.ofNat kk)), .val (.ref b105), .val (.int (own_all (own_W vv 5) 5 0)), .val (.int ((Int32.ofNat kk) + (1 : Int32))), .val (.int (1 : Int32))] [(.ref b105)]))
    refine Goes.go (fun _ kst => XS.iconst X122.here hx rfl (hb hby at_172) kst) ?_
    show Goes p e below s _ _ _ (T122.setTop (mkF m 173 #[.val (.int p0), .val (.int p1), .val (.int (5 : Int32)), .val (.int (31 : Int32)), .val (.int (Int32.ofNat kk)), .val (.ref b105), .val (.int (own_all (own_W vv 5) 5 0)), .val (.int ((Int32.ofNat kk) + (1 : Int32))), .val (.int (1 : Int32))] [(.int (3 : Int32)), (.ref b105)]))
    refine Goes.go (fun _ kst => XS.iload X122.here hx rfl (hb hby at_173) rfl  kst) ?_
    show Goes p e below s _ _ _ (T122.setTop (mkF m 175 #[.val (.int p0), .val (.int p1), .val (.int (5 : Int32)), .val (.int (31 : Int32)), .val (.int (Int32.ofNat kk)), .val (.ref b105), .val (.int (own_all (own_W vv 5) 5 0)), .val (.int ((Int32.ofNat kk) + (1 : Int32))), .val (.int (1 : Int32))] [(.int ((Int32.ofNat kk) + (1 : Int32))), (.int (3 : Int32)), (.ref b105)]))
    obtain ⟨_, _, ⟨T125, L125, k125, n125⟩, -, X125, ⟨Lc125, hQ125, l125, y125, z125⟩, st125⟩ := Jvm.LawKit.callS X122 hx (y := (⟨"com/example/surety/surety/DecompositionAdvancePinLaw", "same", "([ZII)Z"⟩ : MethodName)) hown (mvT hZ (hw _ (List.mem_of_getElem? (i := 10) rfl))) (mvT hZ (hw _ (List.mem_of_getElem? (i := 11) rfl))) (mvT hZ (hw _ (List.mem_of_getElem? (i := 4) rfl))) (mvT hZ (hw _ (List.mem_of_getElem? (i := 12) rfl))) (by decide) (backOf (W := 0) (rm3 l Z a0 hw [] b105 (3 : Int32) ((Int32.ofNat kk) + (1 : Int32)) 5 (own_W vv 5) 3 h113 n0 Z113 A113 rfl (by decide)) hZ (hw _ (List.mem_of_getElem? (i := 12) rfl)) (hw _ (List.mem_of_getElem? (i := 4) rfl)) (by decide) (by decide)) (g := (mkF m 175 #[.val (.int p0), .val (.int p1), .val (.int (5 : Int32)), .val (.int (31 : Int32)), .val (.int (Int32.ofNat kk)), .val (.ref b105), .val (.int (own_all (own_W vv 5) 5 0)), .val (.int ((Int32.ofNat kk) + (1 : Int32))), .val (.int (1 : Int32))] [(.int ((Int32.ofNat kk) + (1 : Int32))), (.int (3 : Int32)), (.ref b105)])) rfl (by rw [hml]; rfl) (argsL := [(.ref b105), (.int (3 : Int32)), (.int ((Int32.ofNat kk) + (1 : Int32)))]) (rest := []) (lenOf pd_2 rfl) rfl (by show 2 * 0 + _ ≤ _; exact Nat.le_of_eq rfl) (hb hby at_175) (fun _ _ => ⟨rfl, e122, (by decide : 1 + 0 ≤ _), (by decide : 5 + 0 ≤ _)⟩)
    dsimp only [Pt.U, Pt.locs, Pt.cells, Pt.slots] at X125 l125 y125 z125 st125 hQ125
    subst l125 y125 z125
    obtain ⟨rfl, N125q, e125⟩ := hQ125
    have N125 := Fr.app N122 N125q
    refine Goes.go st125 ?_
    show Goes p e below s _ _ _ (T125.setTop (mkF m 178 #[.val (.int p0), .val (.int p1), .val (.int (5 : Int32)), .val (.int (31 : Int32)), .val (.int (Int32.ofNat kk)), .val (.ref b105), .val (.int (own_all (own_W vv 5) 5 0)), .val (.int ((Int32.ofNat kk) + (1 : Int32))), .val (.int (1 : Int32))] [(.int (f3 b105 (3 : Int32) ((Int32.ofNat kk) + (1 : Int32)) 5 (own_W vv 5) 3))]))
    have hc178_126 : ¬ ((f3 b105 (3 : Int32) ((Int32.ofNat kk) + (1 : Int32)) 5 (own_W vv 5) 3) = (0 : Int32)) := gg3
    refine Goes.go (fun _ kst => XS.ifNo X125.here hx rfl (hb hby at_178) rfl ((if0 _ _).trans (feq hc178_126).1) kst) ?_
    show Goes p e below s _ _ _ (T125.setTop (mkF m 181 #[.val (.int p0), .val (.int p1), .val (.int (5 : Int32)), .val (.int (31 : Int32)), .val (.int (Int32.ofNat kk)), .val (.ref b105), .val (.int (own_all (own_W vv 5) 5 0)), .val (.int ((Int32.ofNat kk) + (1 : Int32))), .val (.int (1 : Int32))] []))
    refine Goes.go (fun _ kst => XS.aload X125.here hx rfl (hb hby at_181) rfl rfl  kst) ?_
    show Goes p e below s _ _ _ (T125.setTop (mkF m 183 #[.val (.int p0), .val (.int p1), .val (.int (5 : Int32)), .val (.int (31 : Int32)), .val (.int (Int32.ofNat kk)), .val (.ref b105), .val (.int (own_all (own_W vv 5) 5 0)), .val (.int ((Int32.ofNat kk) + (1 : Int32))), .val (.int (1 : Int32))] [(.ref b105)]))
    refine Goes.go (fun _ kst => XS.iconst X125.here hx rfl (hb hby at_183) kst) ?_
    show Goes p e below s _ _ _ (T125.setTop (mkF m 184 #[.val (.int p0), .val (.int p1), .val (.int (5 : Int32)), .val (.int (31 : Int32)), .val (.int (Int32.ofNat kk)), .val (.ref b105), .val (.int (own_all (own_W vv 5) 5 0)), .val (.int ((Int32.ofNat kk) + (1 : Int32))), .val (.int (1 : Int32))] [(.int (4 : Int32)), (.ref b105)]))
    refine Goes.go (fun _ kst => XS.iload X125.here hx rfl (hb hby at_184) rfl  kst) ?_
    show Goes p e below s _ _ _ (T125.setTop (mkF m 186 #[.val (.int p0), .val (.int p1), .val (.int (5 : Int32)), .val (.int (31 : Int32)), .val (.int (Int32.ofNat kk)), .val (.ref b105), .val (.int (own_all (own_W vv 5) 5 0)), .val (.int ((Int32.ofNat kk) + (1 : Int32))), .val (.int (1 : Int32))] [(.int ((Int32.ofNat kk) + (1 : Int32))), (.int (4 : Int32)), (.ref b105)]))
    obtain ⟨_, _, ⟨T127, L127, k127, n127⟩, -, X127, ⟨Lc127, hQ127, l127, y127, z127⟩, st127⟩ := Jvm.LawKit.callS X125 hx (y := (⟨"com/example/surety/surety/DecompositionAdvancePinLaw", "same", "([ZII)Z"⟩ : MethodName)) hown (mvT hZ (hw _ (List.mem_of_getElem? (i := 10) rfl))) (mvT hZ (hw _ (List.mem_of_getElem? (i := 11) rfl))) (mvT hZ (hw _ (List.mem_of_getElem? (i := 4) rfl))) (mvT hZ (hw _ (List.mem_of_getElem? (i := 12) rfl))) (by decide) (backOf (W := 0) (rm3 l Z a0 hw [] b105 (4 : Int32) ((Int32.ofNat kk) + (1 : Int32)) 5 (own_W vv 5) 4 h113 n0 Z113 A113 rfl (by decide)) hZ (hw _ (List.mem_of_getElem? (i := 12) rfl)) (hw _ (List.mem_of_getElem? (i := 4) rfl)) (by decide) (by decide)) (g := (mkF m 186 #[.val (.int p0), .val (.int p1), .val (.int (5 : Int32)), .val (.int (31 : Int32)), .val (.int (Int32.ofNat kk)), .val (.ref b105), .val (.int (own_all (own_W vv 5) 5 0)), .val (.int ((Int32.ofNat kk) + (1 : Int32))), .val (.int (1 : Int32))] [(.int ((Int32.ofNat kk) + (1 : Int32))), (.int (4 : Int32)), (.ref b105)])) rfl (by rw [hml]; rfl) (argsL := [(.ref b105), (.int (4 : Int32)), (.int ((Int32.ofNat kk) + (1 : Int32)))]) (rest := []) (lenOf pd_2 rfl) rfl (by show 2 * 0 + _ ≤ _; exact Nat.le_of_eq rfl) (hb hby at_186) (fun _ _ => ⟨rfl, e125, (by decide : 1 + 0 ≤ _), (by decide : 5 + 0 ≤ _)⟩)
    dsimp only [Pt.U, Pt.locs, Pt.cells, Pt.slots] at X127 l127 y127 z127 st127 hQ127
    subst l127 y127 z127
    obtain ⟨rfl, N127q, e127⟩ := hQ127
    have N127 := Fr.app N125 N127q
    refine Goes.go st127 ?_
    show Goes p e below s _ _ _ (T127.setTop (mkF m 189 #[.val (.int p0), .val (.int p1), .val (.int (5 : Int32)), .val (.int (31 : Int32)), .val (.int (Int32.ofNat kk)), .val (.ref b105), .val (.int (own_all (own_W vv 5) 5 0)), .val (.int ((Int32.ofNat kk) + (1 : Int32))), .val (.int (1 : Int32))] [(.int (f3 b105 (4 : Int32) ((Int32.ofNat kk) + (1 : Int32)) 5 (own_W vv 5) 4))]))
    have hc189_128 : ¬ ((f3 b105 (4 : Int32) ((Int32.ofNat kk) + (1 : Int32)) 5 (own_W vv 5) 4) = (0 : Int32)) := gg4
    refine Goes.go (fun _ kst => XS.ifNo X127.here hx rfl (hb hby at_189) rfl ((if0 _ _).trans (feq hc189_128).1) kst) ?_
    show Goes p e below s _ _ _ (T127.setTop (mkF m 192 #[.val (.int p0), .val (.int p1), .val (.int (5 : Int32)), .val (.int (31 : Int32)), .val (.int (Int32.ofNat kk)), .val (.ref b105), .val (.int (own_all (own_W vv 5) 5 0)), .val (.int ((Int32.ofNat kk) + (1 : Int32))), .val (.int (1 : Int32))] []))
    refine Goes.go (fun _ kst => XS.aload X127.here hx rfl (hb hby at_192) rfl rfl  kst) ?_
    show Goes p e below s _ _ _ (T127.setTop (mkF m 194 #[.val (.int p0), .val (.int p1), .val (.int (5 : Int32)), .val (.int (31 : Int32)), .val (.int (Int32.ofNat kk)), .val (.ref b105), .val (.int (own_all (own_W vv 5) 5 0)), .val (.int ((Int32.ofNat kk) + (1 : Int32))), .val (.int (1 : Int32))] [(.ref b105)]))
    refine Goes.go (fun _ kst => XS.iconst X127.here hx rfl (hb hby at_194) kst) ?_
    show Goes p e below s _ _ _ (T127.setTop (mkF m 195 #[.val (.int p0), .val (.int p1), .val (.int (5 : Int32)), .val (.int (31 : Int32)), .val (.int (Int32.ofNat kk)), .val (.ref b105), .val (.int (own_all (own_W vv 5) 5 0)), .val (.int ((Int32.ofNat kk) + (1 : Int32))), .val (.int (1 : Int32))] [(.int (5 : Int32)), (.ref b105)]))
    refine Goes.go (fun _ kst => XS.iload X127.here hx rfl (hb hby at_195) rfl  kst) ?_
    show Goes p e below s _ _ _ (T127.setTop (mkF m 197 #[.val (.int p0), .val (.int p1), .val (.int (5 : Int32)), .val (.int (31 : Int32)), .val (.int (Int32.ofNat kk)), .val (.ref b105), .val (.int (own_all (own_W vv 5) 5 0)), .val (.int ((Int32.ofNat kk) + (1 : Int32))), .val (.int (1 : Int32))] [(.int ((Int32.ofNat kk) + (1 : Int32))), (.int (5 : Int32)), (.ref b105)]))
    obtain ⟨_, _, ⟨T129, L129, k129, n129⟩, -, X129, ⟨Lc129, hQ129, l129, y129, z129⟩, st129⟩ := Jvm.LawKit.callS X127 hx (y := (⟨"com/example/surety/surety/DecompositionAdvancePinLaw", "same", "([ZII)Z"⟩ : MethodName)) hown (mvT hZ (hw _ (List.mem_of_getElem? (i := 10) rfl))) (mvT hZ (hw _ (List.mem_of_getElem? (i := 11) rfl))) (mvT hZ (hw _ (List.mem_of_getElem? (i := 4) rfl))) (mvT hZ (hw _ (List.mem_of_getElem? (i := 12) rfl))) (by decide) (backOf (W := 0) (rm3 l Z a0 hw [] b105 (5 : Int32) ((Int32.ofNat kk) + (1 : Int32)) 5 (own_W vv 5) 5 h113 n0 Z113 A113 rfl (by decide)) hZ (hw _ (List.mem_of_getElem? (i := 12) rfl)) (hw _ (List.mem_of_getElem? (i := 4) rfl)) (by decide) (by decide)) (g := (mkF m 197 #[.val (.int p0), .val (.int p1), .val (.int (5 : Int32)), .val (.int (31 : Int32)), .val (.int (Int32.ofNat kk)), .val (.ref b105), .val (.int (own_all (own_W vv 5) 5 0)), .val (.int ((Int32.ofNat kk) + (1 : Int32))), .val (.int (1 : Int32))] [(.int ((Int32.ofNat kk) + (1 : Int32))), (.int (5 : Int32)), (.ref b105)])) rfl (by rw [hml]; rfl) (argsL := [(.ref b105), (.int (5 : Int32)), (.int ((Int32.ofNat kk) + (1 : Int32)))]) (rest := []) (lenOf pd_2 rfl) rfl (by show 2 * 0 + _ ≤ _; exact Nat.le_of_eq rfl) (hb hby at_197) (fun _ _ => ⟨rfl, e127, (by decide : 1 + 0 ≤ _), (by decide : 5 + 0 ≤ _)⟩)
    dsimp only [Pt.U, Pt.locs, Pt.cells, Pt.slots] at X129 l129 y129 z129 st129 hQ129
    subst l129 y129 z129
    obtain ⟨rfl, N129q, e129⟩ := hQ129
    have N129 := Fr.app N127 N129q
    refine Goes.go st129 ?_
    show Goes p e below s _ _ _ (T129.setTop (mkF m 200 #[.val (.int p0), .val (.int p1), .val (.int (5 : Int32)), .val (.int (31 : Int32)), .val (.int (Int32.ofNat kk)), .val (.ref b105), .val (.int (own_all (own_W vv 5) 5 0)), .val (.int ((Int32.ofNat kk) + (1 : Int32))), .val (.int (1 : Int32))] [(.int (f3 b105 (5 : Int32) ((Int32.ofNat kk) + (1 : Int32)) 5 (own_W vv 5) 5))]))
    have hc200_130 : ¬ ((f3 b105 (5 : Int32) ((Int32.ofNat kk) + (1 : Int32)) 5 (own_W vv 5) 5) = (0 : Int32)) := gg5
    refine Goes.go (fun _ kst => XS.ifNo X129.here hx rfl (hb hby at_200) rfl ((if0 _ _).trans (feq hc200_130).1) kst) ?_
    show Goes p e below s _ _ _ (T129.setTop (mkF m 203 #[.val (.int p0), .val (.int p1), .val (.int (5 : Int32)), .val (.int (31 : Int32)), .val (.int (Int32.ofNat kk)), .val (.ref b105), .val (.int (own_all (own_W vv 5) 5 0)), .val (.int ((Int32.ofNat kk) + (1 : Int32))), .val (.int (1 : Int32))] []))
    refine Goes.go (fun _ kst => XS.iconst X129.here hx rfl (hb hby at_203) kst) ?_
    show Goes p e below s _ _ _ (T129.setTop (mkF m 204 #[.val (.int p0), .val (.int p1), .val (.int (5 : Int32)), .val (.int (31 : Int32)), .val (.int (Int32.ofNat kk)), .val (.ref b105), .val (.int (own_all (own_W vv 5) 5 0)), .val (.int ((Int32.ofNat kk) + (1 : Int32))), .val (.int (1 : Int32))] [(.int (1 : Int32))]))
    refine Goes.go (fun _ kst => XS.goto X129.here hx rfl (pc0 := 204) (pc' := 208) rfl (hb hby at_204) (by decide) (by decide) kst) ?_
    show Goes p e below s _ _ _ (T129.setTop (mkF m 208 #[.val (.int p0), .val (.int p1), .val (.int (5 : Int32)), .val (.int (31 : Int32)), .val (.int (Int32.ofNat kk)), .val (.ref b105), .val (.int (own_all (own_W vv 5) 5 0)), .val (.int ((Int32.ofNat kk) + (1 : Int32))), .val (.int (1 : Int32))] [(.int (1 : Int32))]))
    refine Goes.go (fun _ kst => XS.istore X129.here hx rfl (hb hby at_208) rfl (l' := #[.val (.int p0), .val (.int p1), .val (.int (5 : Int32)), .val (.int (31 : Int32)), .val (.int (Int32.ofNat kk)), .val (.ref b105), .val (.int (own_all (own_W vv 5) 5 0)), .val (.int ((Int32.ofNat kk) + (1 : Int32))), .val (.int (1 : Int32))]) rfl kst) ?_
    show Goes p e below s _ _ _ (T129.setTop (mkF m 210 #[.val (.int p0), .val (.int p1), .val (.int (5 : Int32)), .val (.int (31 : Int32)), .val (.int (Int32.ofNat kk)), .val (.ref b105), .val (.int (own_all (own_W vv 5) 5 0)), .val (.int ((Int32.ofNat kk) + (1 : Int32))), .val (.int (1 : Int32))] []))
    refine Goes.go (fun _ kst => XS.iload X129.here hx rfl (hb hby at_210) rfl  kst) ?_
    show Goes p e below s _ _ _ (T129.setTop (mkF m 212 #[.val (.int p0), .val (.int p1), .val (.int (5 : Int32)), .val (.int (31 : Int32)), .val (.int (Int32.ofNat kk)), .val (.ref b105), .val (.int (own_all (own_W vv 5) 5 0)), .val (.int ((Int32.ofNat kk) + (1 : Int32))), .val (.int (1 : Int32))] [(.int (1 : Int32))]))
    refine Goes.retN .boolean X129 hx hlk Bd.returns (by simp) (hb hby at_212) ?_ (by decide) (by decide)
    exact ⟨rfl, N129⟩
  · rw [show ((1 : Int32) + ((p0 &&& (2147483647 : Int32)) % (6 : Int32))) = (6 : Int32) from by rw [show ((p0 &&& (2147483647 : Int32)) % (6 : Int32)) = Int32.ofNat 5 from en]; rfl]
    show Goes p e below s _ _ _ (s₁.setTop (mkF m 10 #[.val (.int p0), .val (.int p1), .val (.int (6 : Int32)), .unset, .unset, .unset, .unset, .unset, .unset] []))
    refine Goes.go (fun _ kst => XS.iconst X0.here hx rfl (hb hby at_10) kst) ?_
    show Goes p e below s _ _ _ (s₁.setTop (mkF m 11 #[.val (.int p0), .val (.int p1), .val (.int (6 : Int32)), .unset, .unset, .unset, .unset, .unset, .unset] [(.int (1 : Int32))]))
    refine Goes.go (fun _ kst => XS.iloadN X0.here hx rfl (hb hby at_11) rfl  kst) ?_
    show Goes p e below s _ _ _ (s₁.setTop (mkF m 12 #[.val (.int p0), .val (.int p1), .val (.int (6 : Int32)), .unset, .unset, .unset, .unset, .unset, .unset] [(.int (6 : Int32)), (.int (1 : Int32))]))
    refine Goes.go (fun _ kst => XS.ishl X0.here hx rfl (hb hby at_12) rfl kst) ?_
    show Goes p e below s _ _ _ (s₁.setTop (mkF m 13 #[.val (.int p0), .val (.int p1), .val (.int (6 : Int32)), .unset, .unset, .unset, .unset, .unset, .unset] [(.int ((1 : Int32) <<< ((6 : Int32) &&& 31)))]))
    refine Goes.go (fun _ kst => XS.iconst X0.here hx rfl (hb hby at_13) kst) ?_
    show Goes p e below s _ _ _ (s₁.setTop (mkF m 14 #[.val (.int p0), .val (.int p1), .val (.int (6 : Int32)), .unset, .unset, .unset, .unset, .unset, .unset] [(.int (1 : Int32)), (.int ((1 : Int32) <<< ((6 : Int32) &&& 31)))]))
    refine Goes.go (fun _ kst => XS.isub X0.here hx rfl (hb hby at_14) rfl kst) ?_
    rw [show (((1 : Int32) <<< ((6 : Int32) &&& 31)) - (1 : Int32)) = (63 : Int32) from by decide]
    show Goes p e below s _ _ _ (s₁.setTop (mkF m 15 #[.val (.int p0), .val (.int p1), .val (.int (6 : Int32)), .unset, .unset, .unset, .unset, .unset, .unset] [(.int (63 : Int32))]))
    refine Goes.go (fun _ kst => XS.istoreN X0.here hx rfl (hb hby at_15) rfl (l' := #[.val (.int p0), .val (.int p1), .val (.int (6 : Int32)), .val (.int (63 : Int32)), .unset, .unset, .unset, .unset, .unset]) rfl kst) ?_
    show Goes p e below s _ _ _ (s₁.setTop (mkF m 16 #[.val (.int p0), .val (.int p1), .val (.int (6 : Int32)), .val (.int (63 : Int32)), .unset, .unset, .unset, .unset, .unset] []))
    refine Goes.go (fun _ kst => XS.iloadN X0.here hx rfl (hb hby at_16) rfl  kst) ?_
    show Goes p e below s _ _ _ (s₁.setTop (mkF m 17 #[.val (.int p0), .val (.int p1), .val (.int (6 : Int32)), .val (.int (63 : Int32)), .unset, .unset, .unset, .unset, .unset] [(.int p1)]))
    refine Goes.go (fun _ kst => X0.ldcInt hx hown (mvT hZ (hw _ (List.mem_of_getElem? (i := 0) rfl))) (g := (mkF m 17 #[.val (.int p0), .val (.int p1), .val (.int (6 : Int32)), .val (.int (63 : Int32)), .unset, .unset, .unset, .unset, .unset] [(.int p1)])) rfl (hb hby at_17) _ kst) ?_
    show Goes p e below s _ _ _ (s₁.setTop (mkF m 19 #[.val (.int p0), .val (.int p1), .val (.int (6 : Int32)), .val (.int (63 : Int32)), .unset, .unset, .unset, .unset, .unset] [(.int (2147483647 : Int32)), (.int p1)]))
    refine Goes.go (fun _ kst => XS.iand X0.here hx rfl (hb hby at_19) rfl kst) ?_
    show Goes p e below s _ _ _ (s₁.setTop (mkF m 20 #[.val (.int p0), .val (.int p1), .val (.int (6 : Int32)), .val (.int (63 : Int32)), .unset, .unset, .unset, .unset, .unset] [(.int (p1 &&& (2147483647 : Int32)))]))
    refine Goes.go (fun _ kst => XS.iloadN X0.here hx rfl (hb hby at_20) rfl  kst) ?_
    show Goes p e below s _ _ _ (s₁.setTop (mkF m 21 #[.val (.int p0), .val (.int p1), .val (.int (6 : Int32)), .val (.int (63 : Int32)), .unset, .unset, .unset, .unset, .unset] [(.int (63 : Int32)), (.int (p1 &&& (2147483647 : Int32)))]))
    refine Goes.go (fun _ kst => own_irem X0.here hx rfl (hb hby at_21) rfl (by decide) kst) ?_
    obtain ⟨kk, hkk, ekk⟩ := own_modN p1 63 (by decide) (by decide)
    have hT := own_t6 ⟨kk, hkk⟩
    dsimp only at hT
    obtain ⟨hfz, hall, gg0, gg1, gg2, gg3, gg4, gg5⟩ := hT
    rw [show ((p1 &&& (2147483647 : Int32)) % (63 : Int32)) = Int32.ofNat kk from ekk]
    show Goes p e below s _ _ _ (s₁.setTop (mkF m 22 #[.val (.int p0), .val (.int p1), .val (.int (6 : Int32)), .val (.int (63 : Int32)), .unset, .unset, .unset, .unset, .unset] [(.int (Int32.ofNat kk))]))
    refine Goes.go (fun _ kst => XS.istore X0.here hx rfl (hb hby at_22) rfl (l' := #[.val (.int p0), .val (.int p1), .val (.int (6 : Int32)), .val (.int (63 : Int32)), .val (.int (Int32.ofNat kk)), .unset, .unset, .unset, .unset]) rfl kst) ?_
    show Goes p e below s _ _ _ (s₁.setTop (mkF m 24 #[.val (.int p0), .val (.int p1), .val (.int (6 : Int32)), .val (.int (63 : Int32)), .val (.int (Int32.ofNat kk)), .unset, .unset, .unset, .unset] []))
    refine Goes.go (fun _ kst => XS.iloadN X0.here hx rfl (hb hby at_24) rfl  kst) ?_
    show Goes p e below s _ _ _ (s₁.setTop (mkF m 25 #[.val (.int p0), .val (.int p1), .val (.int (6 : Int32)), .val (.int (63 : Int32)), .val (.int (Int32.ofNat kk)), .unset, .unset, .unset, .unset] [(.int (6 : Int32))]))
    obtain ⟨T131, h131, X131, e131, E131, A131, EA131, st131⟩ := own_newA X0 hx hZ (hw _ (List.mem_of_getElem? (i := 1) rfl)) e0 (g := (mkF m 25 #[.val (.int p0), .val (.int p1), .val (.int (6 : Int32)), .val (.int (63 : Int32)), .val (.int (Int32.ofNat kk)), .unset, .unset, .unset, .unset] [(.int (6 : Int32))])) rfl (hb hby at_25) rfl (n := 6) rfl (cap := 6) (Nat.le_refl _) (by decide) (by decide) (by decide) (by decide) (by decide) (by decide : _ = "[Z")
    obtain ⟨b131, g131⟩ : ∃ z, z = h0.size := ⟨_, rfl⟩
    rw [← g131] at A131 EA131 st131
    have gb131 : n0 ≤ b131 := Nat.le_trans Z0 (Nat.le_of_eq g131.symm)
    have sb131 : h0.size ≤ b131 := Nat.le_trans K0.1 (Nat.le_of_eq g131.symm)
    have Z131 := Nat.le_trans Z0 E131.1
    have K131 := Keep.ext K0 E131
    refine Goes.go st131 ?_
    show Goes p e below s _ _ _ (T131.setTop (mkF m 27 #[.val (.int p0), .val (.int p1), .val (.int (6 : Int32)), .val (.int (63 : Int32)), .val (.int (Int32.ofNat kk)), .unset, .unset, .unset, .unset] [(.ref b131)]))
    refine Goes.go (fun _ kst => XS.astore X131.here hx rfl (hb hby at_27) rfl rfl (l' := #[.val (.int p0), .val (.int p1), .val (.int (6 : Int32)), .val (.int (63 : Int32)), .val (.int (Int32.ofNat kk)), .val (.ref b131), .unset, .unset, .unset]) rfl kst) ?_
    show Goes p e below s _ _ _ (T131.setTop (mkF m 29 #[.val (.int p0), .val (.int p1), .val (.int (6 : Int32)), .val (.int (63 : Int32)), .val (.int (Int32.ofNat kk)), .val (.ref b131), .unset, .unset, .unset] []))
    refine Goes.go (fun _ kst => XS.aload X131.here hx rfl (hb hby at_29) rfl rfl  kst) ?_
    show Goes p e below s _ _ _ (T131.setTop (mkF m 31 #[.val (.int p0), .val (.int p1), .val (.int (6 : Int32)), .val (.int (63 : Int32)), .val (.int (Int32.ofNat kk)), .val (.ref b131), .unset, .unset, .unset] [(.ref b131)]))
    refine Goes.go (fun _ kst => XS.iconst X131.here hx rfl (hb hby at_31) kst) ?_
    show Goes p e below s _ _ _ (T131.setTop (mkF m 32 #[.val (.int p0), .val (.int p1), .val (.int (6 : Int32)), .val (.int (63 : Int32)), .val (.int (Int32.ofNat kk)), .val (.ref b131), .unset, .unset, .unset] [(.int (0 : Int32)), (.ref b131)]))
    refine Goes.go (fun _ kst => XS.iload X131.here hx rfl (hb hby at_32) rfl  kst) ?_
    show Goes p e below s _ _ _ (T131.setTop (mkF m 34 #[.val (.int p0), .val (.int p1), .val (.int (6 : Int32)), .val (.int (63 : Int32)), .val (.int (Int32.ofNat kk)), .val (.ref b131), .unset, .unset, .unset] [(.int (Int32.ofNat kk)), (.int (0 : Int32)), (.ref b131)]))
    obtain ⟨_, _, ⟨T132, L132, k132, n132⟩, -, X132, ⟨Lc132, hQ132, l132, y132, z132⟩, st132⟩ := Jvm.LawKit.callS X131 hx (y := (⟨"com/example/surety/surety/DecompositionAdvancePinLaw", "set", "([ZII)V"⟩ : MethodName)) hown (mvT hZ (hw _ (List.mem_of_getElem? (i := 2) rfl))) (mvT hZ (hw _ (List.mem_of_getElem? (i := 3) rfl))) (mvT hZ (hw _ (List.mem_of_getElem? (i := 4) rfl))) (mvT hZ (hw _ (List.mem_of_getElem? (i := 5) rfl))) (by decide) (backOf (W := 0) (rm1a l Z a0 hw [] b131 (0 : Int32) (Int32.ofNat kk) 6 (fun _ => 0) 0 h131 n0 Z131 A131 gb131 rfl (by decide)) hZ (hw _ (List.mem_of_getElem? (i := 5) rfl)) (hw _ (List.mem_of_getElem? (i := 4) rfl)) (by decide) (by decide)) (g := (mkF m 34 #[.val (.int p0), .val (.int p1), .val (.int (6 : Int32)), .val (.int (63 : Int32)), .val (.int (Int32.ofNat kk)), .val (.ref b131), .unset, .unset, .unset] [(.int (Int32.ofNat kk)), (.int (0 : Int32)), (.ref b131)])) rfl (by rw [hml]; rfl) (argsL := [(.ref b131), (.int (0 : Int32)), (.int (Int32.ofNat kk))]) (rest := []) (lenOf pd_0 rfl) rfl (by show 2 * 0 + _ ≤ _; exact Nat.le_of_eq rfl) (hb hby at_34) (fun _ _ => ⟨rfl, e131, (by decide : 1 + 0 ≤ _), (by decide : 6 + 0 ≤ _)⟩)
    dsimp only [Pt.U, Pt.locs, Pt.cells, Pt.slots] at X132 l132 y132 z132 st132 hQ132
    subst l132 y132 z132
    obtain ⟨h132, e132⟩ : ∃ z, T132.heap = z := ⟨_, rfl⟩
    rw [e132] at hQ132
    obtain ⟨rfl, N132q, Kq132, G132_0⟩ := hQ132
    have N132 := Fr.app N0 N132q
    have K132 := Keep.trans K131 Kq132 (allS (Or.inr sb131) all0)
    have Z132 := Nat.le_trans Z131 Kq132.1
    refine Goes.go st132 ?_
    show Goes p e below s _ _ _ (T132.setTop (mkF m 37 #[.val (.int p0), .val (.int p1), .val (.int (6 : Int32)), .val (.int (63 : Int32)), .val (.int (Int32.ofNat kk)), .val (.ref b131), .unset, .unset, .unset] []))
    refine Goes.go (fun _ kst => XS.aload X132.here hx rfl (hb hby at_37) rfl rfl  kst) ?_
    show Goes p e below s _ _ _ (T132.setTop (mkF m 39 #[.val (.int p0), .val (.int p1), .val (.int (6 : Int32)), .val (.int (63 : Int32)), .val (.int (Int32.ofNat kk)), .val (.ref b131), .unset, .unset, .unset] [(.ref b131)]))
    refine Goes.go (fun _ kst => XS.iconst X132.here hx rfl (hb hby at_39) kst) ?_
    show Goes p e below s _ _ _ (T132.setTop (mkF m 40 #[.val (.int p0), .val (.int p1), .val (.int (6 : Int32)), .val (.int (63 : Int32)), .val (.int (Int32.ofNat kk)), .val (.ref b131), .unset, .unset, .unset] [(.int (1 : Int32)), (.ref b131)]))
    refine Goes.go (fun _ kst => XS.iload X132.here hx rfl (hb hby at_40) rfl  kst) ?_
    show Goes p e below s _ _ _ (T132.setTop (mkF m 42 #[.val (.int p0), .val (.int p1), .val (.int (6 : Int32)), .val (.int (63 : Int32)), .val (.int (Int32.ofNat kk)), .val (.ref b131), .unset, .unset, .unset] [(.int (Int32.ofNat kk)), (.int (1 : Int32)), (.ref b131)]))
    obtain ⟨_, _, ⟨T133, L133, k133, n133⟩, -, X133, ⟨Lc133, hQ133, l133, y133, z133⟩, st133⟩ := Jvm.LawKit.callS X132 hx (y := (⟨"com/example/surety/surety/DecompositionAdvancePinLaw", "set", "([ZII)V"⟩ : MethodName)) hown (mvT hZ (hw _ (List.mem_of_getElem? (i := 2) rfl))) (mvT hZ (hw _ (List.mem_of_getElem? (i := 3) rfl))) (mvT hZ (hw _ (List.mem_of_getElem? (i := 4) rfl))) (mvT hZ (hw _ (List.mem_of_getElem? (i := 5) rfl))) (by decide) (backOf (W := 0) (rm1a l Z a0 hw [] b131 (1 : Int32) (Int32.ofNat kk) 6 (own_upd (fun _ => 0) 0 (nar .boolean (if (((Int32.ofNat kk) >>> ((0 : Int32) &&& 31)) &&& (1 : Int32)) = (0 : Int32) then (0 : Int32) else (1 : Int32)))) 1 h132 n0 Z132 G132_0 gb131 rfl (by decide)) hZ (hw _ (List.mem_of_getElem? (i := 5) rfl)) (hw _ (List.mem_of_getElem? (i := 4) rfl)) (by decide) (by decide)) (g := (mkF m 42 #[.val (.int p0), .val (.int p1), .val (.int (6 : Int32)), .val (.int (63 : Int32)), .val (.int (Int32.ofNat kk)), .val (.ref b131), .unset, .unset, .unset] [(.int (Int32.ofNat kk)), (.int (1 : Int32)), (.ref b131)])) rfl (by rw [hml]; rfl) (argsL := [(.ref b131), (.int (1 : Int32)), (.int (Int32.ofNat kk))]) (rest := []) (lenOf pd_0 rfl) rfl (by show 2 * 0 + _ ≤ _; exact Nat.le_of_eq rfl) (hb hby at_42) (fun _ _ => ⟨rfl, e132, (by decide : 1 + 0 ≤ _), (by decide : 6 + 0 ≤ _)⟩)
    dsimp only [Pt.U, Pt.locs, Pt.cells, Pt.slots] at X133 l133 y133 z133 st133 hQ133
    subst l133 y133 z133
    obtain ⟨h133, e133⟩ : ∃ z, T133.heap = z := ⟨_, rfl⟩
    rw [e133] at hQ133
    obtain ⟨rfl, N133q, Kq133, G133_0⟩ := hQ133
    have N133 := Fr.app N132 N133q
    have K133 := Keep.trans K132 Kq133 (allS (Or.inr sb131) all0)
    have Z133 := Nat.le_trans Z132 Kq133.1
    refine Goes.go st133 ?_
    show Goes p e below s _ _ _ (T133.setTop (mkF m 45 #[.val (.int p0), .val (.int p1), .val (.int (6 : Int32)), .val (.int (63 : Int32)), .val (.int (Int32.ofNat kk)), .val (.ref b131), .unset, .unset, .unset] []))
    refine Goes.go (fun _ kst => XS.aload X133.here hx rfl (hb hby at_45) rfl rfl  kst) ?_
    show Goes p e below s _ _ _ (T133.setTop (mkF m 47 #[.val (.int p0), .val (.int p1), .val (.int (6 : Int32)), .val (.int (63 : Int32)), .val (.int (Int32.ofNat kk)), .val (.ref b131), .unset, .unset, .unset] [(.ref b131)]))
    refine Goes.go (fun _ kst => XS.iconst X133.here hx rfl (hb hby at_47) kst) ?_
    show Goes p e below s _ _ _ (T133.setTop (mkF m 48 #[.val (.int p0), .val (.int p1), .val (.int (6 : Int32)), .val (.int (63 : Int32)), .val (.int (Int32.ofNat kk)), .val (.ref b131), .unset, .unset, .unset] [(.int (2 : Int32)), (.ref b131)]))
    refine Goes.go (fun _ kst => XS.iload X133.here hx rfl (hb hby at_48) rfl  kst) ?_
    show Goes p e below s _ _ _ (T133.setTop (mkF m 50 #[.val (.int p0), .val (.int p1), .val (.int (6 : Int32)), .val (.int (63 : Int32)), .val (.int (Int32.ofNat kk)), .val (.ref b131), .unset, .unset, .unset] [(.int (Int32.ofNat kk)), (.int (2 : Int32)), (.ref b131)]))
    obtain ⟨_, _, ⟨T134, L134, k134, n134⟩, -, X134, ⟨Lc134, hQ134, l134, y134, z134⟩, st134⟩ := Jvm.LawKit.callS X133 hx (y := (⟨"com/example/surety/surety/DecompositionAdvancePinLaw", "set", "([ZII)V"⟩ : MethodName)) hown (mvT hZ (hw _ (List.mem_of_getElem? (i := 2) rfl))) (mvT hZ (hw _ (List.mem_of_getElem? (i := 3) rfl))) (mvT hZ (hw _ (List.mem_of_getElem? (i := 4) rfl))) (mvT hZ (hw _ (List.mem_of_getElem? (i := 5) rfl))) (by decide) (backOf (W := 0) (rm1a l Z a0 hw [] b131 (2 : Int32) (Int32.ofNat kk) 6 (own_upd (own_upd (fun _ => 0) 0 (nar .boolean (if (((Int32.ofNat kk) >>> ((0 : Int32) &&& 31)) &&& (1 : Int32)) = (0 : Int32) then (0 : Int32) else (1 : Int32)))) 1 (nar .boolean (if (((Int32.ofNat kk) >>> ((1 : Int32) &&& 31)) &&& (1 : Int32)) = (0 : Int32) then (0 : Int32) else (1 : Int32)))) 2 h133 n0 Z133 G133_0 gb131 rfl (by decide)) hZ (hw _ (List.mem_of_getElem? (i := 5) rfl)) (hw _ (List.mem_of_getElem? (i := 4) rfl)) (by decide) (by decide)) (g := (mkF m 50 #[.val (.int p0), .val (.int p1), .val (.int (6 : Int32)), .val (.int (63 : Int32)), .val (.int (Int32.ofNat kk)), .val (.ref b131), .unset, .unset, .unset] [(.int (Int32.ofNat kk)), (.int (2 : Int32)), (.ref b131)])) rfl (by rw [hml]; rfl) (argsL := [(.ref b131), (.int (2 : Int32)), (.int (Int32.ofNat kk))]) (rest := []) (lenOf pd_0 rfl) rfl (by show 2 * 0 + _ ≤ _; exact Nat.le_of_eq rfl) (hb hby at_50) (fun _ _ => ⟨rfl, e133, (by decide : 1 + 0 ≤ _), (by decide : 6 + 0 ≤ _)⟩)
    dsimp only [Pt.U, Pt.locs, Pt.cells, Pt.slots] at X134 l134 y134 z134 st134 hQ134
    subst l134 y134 z134
    obtain ⟨h134, e134⟩ : ∃ z, T134.heap = z := ⟨_, rfl⟩
    rw [e134] at hQ134
    obtain ⟨rfl, N134q, Kq134, G134_0⟩ := hQ134
    have N134 := Fr.app N133 N134q
    have K134 := Keep.trans K133 Kq134 (allS (Or.inr sb131) all0)
    have Z134 := Nat.le_trans Z133 Kq134.1
    refine Goes.go st134 ?_
    show Goes p e below s _ _ _ (T134.setTop (mkF m 53 #[.val (.int p0), .val (.int p1), .val (.int (6 : Int32)), .val (.int (63 : Int32)), .val (.int (Int32.ofNat kk)), .val (.ref b131), .unset, .unset, .unset] []))
    refine Goes.go (fun _ kst => XS.aload X134.here hx rfl (hb hby at_53) rfl rfl  kst) ?_
    show Goes p e below s _ _ _ (T134.setTop (mkF m 55 #[.val (.int p0), .val (.int p1), .val (.int (6 : Int32)), .val (.int (63 : Int32)), .val (.int (Int32.ofNat kk)), .val (.ref b131), .unset, .unset, .unset] [(.ref b131)]))
    refine Goes.go (fun _ kst => XS.iconst X134.here hx rfl (hb hby at_55) kst) ?_
    show Goes p e below s _ _ _ (T134.setTop (mkF m 56 #[.val (.int p0), .val (.int p1), .val (.int (6 : Int32)), .val (.int (63 : Int32)), .val (.int (Int32.ofNat kk)), .val (.ref b131), .unset, .unset, .unset] [(.int (3 : Int32)), (.ref b131)]))
    refine Goes.go (fun _ kst => XS.iload X134.here hx rfl (hb hby at_56) rfl  kst) ?_
    show Goes p e below s _ _ _ (T134.setTop (mkF m 58 #[.val (.int p0), .val (.int p1), .val (.int (6 : Int32)), .val (.int (63 : Int32)), .val (.int (Int32.ofNat kk)), .val (.ref b131), .unset, .unset, .unset] [(.int (Int32.ofNat kk)), (.int (3 : Int32)), (.ref b131)]))
    obtain ⟨_, _, ⟨T135, L135, k135, n135⟩, -, X135, ⟨Lc135, hQ135, l135, y135, z135⟩, st135⟩ := Jvm.LawKit.callS X134 hx (y := (⟨"com/example/surety/surety/DecompositionAdvancePinLaw", "set", "([ZII)V"⟩ : MethodName)) hown (mvT hZ (hw _ (List.mem_of_getElem? (i := 2) rfl))) (mvT hZ (hw _ (List.mem_of_getElem? (i := 3) rfl))) (mvT hZ (hw _ (List.mem_of_getElem? (i := 4) rfl))) (mvT hZ (hw _ (List.mem_of_getElem? (i := 5) rfl))) (by decide) (backOf (W := 0) (rm1a l Z a0 hw [] b131 (3 : Int32) (Int32.ofNat kk) 6 (own_upd (own_upd (own_upd (fun _ => 0) 0 (nar .boolean (if (((Int32.ofNat kk) >>> ((0 : Int32) &&& 31)) &&& (1 : Int32)) = (0 : Int32) then (0 : Int32) else (1 : Int32)))) 1 (nar .boolean (if (((Int32.ofNat kk) >>> ((1 : Int32) &&& 31)) &&& (1 : Int32)) = (0 : Int32) then (0 : Int32) else (1 : Int32)))) 2 (nar .boolean (if (((Int32.ofNat kk) >>> ((2 : Int32) &&& 31)) &&& (1 : Int32)) = (0 : Int32) then (0 : Int32) else (1 : Int32)))) 3 h134 n0 Z134 G134_0 gb131 rfl (by decide)) hZ (hw _ (List.mem_of_getElem? (i := 5) rfl)) (hw _ (List.mem_of_getElem? (i := 4) rfl)) (by decide) (by decide)) (g := (mkF m 58 #[.val (.int p0), .val (.int p1), .val (.int (6 : Int32)), .val (.int (63 : Int32)), .val (.int (Int32.ofNat kk)), .val (.ref b131), .unset, .unset, .unset] [(.int (Int32.ofNat kk)), (.int (3 : Int32)), (.ref b131)])) rfl (by rw [hml]; rfl) (argsL := [(.ref b131), (.int (3 : Int32)), (.int (Int32.ofNat kk))]) (rest := []) (lenOf pd_0 rfl) rfl (by show 2 * 0 + _ ≤ _; exact Nat.le_of_eq rfl) (hb hby at_58) (fun _ _ => ⟨rfl, e134, (by decide : 1 + 0 ≤ _), (by decide : 6 + 0 ≤ _)⟩)
    dsimp only [Pt.U, Pt.locs, Pt.cells, Pt.slots] at X135 l135 y135 z135 st135 hQ135
    subst l135 y135 z135
    obtain ⟨h135, e135⟩ : ∃ z, T135.heap = z := ⟨_, rfl⟩
    rw [e135] at hQ135
    obtain ⟨rfl, N135q, Kq135, G135_0⟩ := hQ135
    have N135 := Fr.app N134 N135q
    have K135 := Keep.trans K134 Kq135 (allS (Or.inr sb131) all0)
    have Z135 := Nat.le_trans Z134 Kq135.1
    refine Goes.go st135 ?_
    show Goes p e below s _ _ _ (T135.setTop (mkF m 61 #[.val (.int p0), .val (.int p1), .val (.int (6 : Int32)), .val (.int (63 : Int32)), .val (.int (Int32.ofNat kk)), .val (.ref b131), .unset, .unset, .unset] []))
    refine Goes.go (fun _ kst => XS.aload X135.here hx rfl (hb hby at_61) rfl rfl  kst) ?_
    show Goes p e below s _ _ _ (T135.setTop (mkF m 63 #[.val (.int p0), .val (.int p1), .val (.int (6 : Int32)), .val (.int (63 : Int32)), .val (.int (Int32.ofNat kk)), .val (.ref b131), .unset, .unset, .unset] [(.ref b131)]))
    refine Goes.go (fun _ kst => XS.iconst X135.here hx rfl (hb hby at_63) kst) ?_
    show Goes p e below s _ _ _ (T135.setTop (mkF m 64 #[.val (.int p0), .val (.int p1), .val (.int (6 : Int32)), .val (.int (63 : Int32)), .val (.int (Int32.ofNat kk)), .val (.ref b131), .unset, .unset, .unset] [(.int (4 : Int32)), (.ref b131)]))
    refine Goes.go (fun _ kst => XS.iload X135.here hx rfl (hb hby at_64) rfl  kst) ?_
    show Goes p e below s _ _ _ (T135.setTop (mkF m 66 #[.val (.int p0), .val (.int p1), .val (.int (6 : Int32)), .val (.int (63 : Int32)), .val (.int (Int32.ofNat kk)), .val (.ref b131), .unset, .unset, .unset] [(.int (Int32.ofNat kk)), (.int (4 : Int32)), (.ref b131)]))
    obtain ⟨_, _, ⟨T136, L136, k136, n136⟩, -, X136, ⟨Lc136, hQ136, l136, y136, z136⟩, st136⟩ := Jvm.LawKit.callS X135 hx (y := (⟨"com/example/surety/surety/DecompositionAdvancePinLaw", "set", "([ZII)V"⟩ : MethodName)) hown (mvT hZ (hw _ (List.mem_of_getElem? (i := 2) rfl))) (mvT hZ (hw _ (List.mem_of_getElem? (i := 3) rfl))) (mvT hZ (hw _ (List.mem_of_getElem? (i := 4) rfl))) (mvT hZ (hw _ (List.mem_of_getElem? (i := 5) rfl))) (by decide) (backOf (W := 0) (rm1a l Z a0 hw [] b131 (4 : Int32) (Int32.ofNat kk) 6 (own_upd (own_upd (own_upd (own_upd (fun _ => 0) 0 (nar .boolean (if (((Int32.ofNat kk) >>> ((0 : Int32) &&& 31)) &&& (1 : Int32)) = (0 : Int32) then (0 : Int32) else (1 : Int32)))) 1 (nar .boolean (if (((Int32.ofNat kk) >>> ((1 : Int32) &&& 31)) &&& (1 : Int32)) = (0 : Int32) then (0 : Int32) else (1 : Int32)))) 2 (nar .boolean (if (((Int32.ofNat kk) >>> ((2 : Int32) &&& 31)) &&& (1 : Int32)) = (0 : Int32) then (0 : Int32) else (1 : Int32)))) 3 (nar .boolean (if (((Int32.ofNat kk) >>> ((3 : Int32) &&& 31)) &&& (1 : Int32)) = (0 : Int32) then (0 : Int32) else (1 : Int32)))) 4 h135 n0 Z135 G135_0 gb131 rfl (by decide)) hZ (hw _ (List.mem_of_getElem? (i := 5) rfl)) (hw _ (List.mem_of_getElem? (i := 4) rfl)) (by decide) (by decide)) (g := (mkF m 66 #[.val (.int p0), .val (.int p1), .val (.int (6 : Int32)), .val (.int (63 : Int32)), .val (.int (Int32.ofNat kk)), .val (.ref b131), .unset, .unset, .unset] [(.int (Int32.ofNat kk)), (.int (4 : Int32)), (.ref b131)])) rfl (by rw [hml]; rfl) (argsL := [(.ref b131), (.int (4 : Int32)), (.int (Int32.ofNat kk))]) (rest := []) (lenOf pd_0 rfl) rfl (by show 2 * 0 + _ ≤ _; exact Nat.le_of_eq rfl) (hb hby at_66) (fun _ _ => ⟨rfl, e135, (by decide : 1 + 0 ≤ _), (by decide : 6 + 0 ≤ _)⟩)
    dsimp only [Pt.U, Pt.locs, Pt.cells, Pt.slots] at X136 l136 y136 z136 st136 hQ136
    subst l136 y136 z136
    obtain ⟨h136, e136⟩ : ∃ z, T136.heap = z := ⟨_, rfl⟩
    rw [e136] at hQ136
    obtain ⟨rfl, N136q, Kq136, G136_0⟩ := hQ136
    have N136 := Fr.app N135 N136q
    have K136 := Keep.trans K135 Kq136 (allS (Or.inr sb131) all0)
    have Z136 := Nat.le_trans Z135 Kq136.1
    refine Goes.go st136 ?_
    show Goes p e below s _ _ _ (T136.setTop (mkF m 69 #[.val (.int p0), .val (.int p1), .val (.int (6 : Int32)), .val (.int (63 : Int32)), .val (.int (Int32.ofNat kk)), .val (.ref b131), .unset, .unset, .unset] []))
    refine Goes.go (fun _ kst => XS.aload X136.here hx rfl (hb hby at_69) rfl rfl  kst) ?_
    show Goes p e below s _ _ _ (T136.setTop (mkF m 71 #[.val (.int p0), .val (.int p1), .val (.int (6 : Int32)), .val (.int (63 : Int32)), .val (.int (Int32.ofNat kk)), .val (.ref b131), .unset, .unset, .unset] [(.ref b131)]))
    refine Goes.go (fun _ kst => XS.iconst X136.here hx rfl (hb hby at_71) kst) ?_
    show Goes p e below s _ _ _ (T136.setTop (mkF m 72 #[.val (.int p0), .val (.int p1), .val (.int (6 : Int32)), .val (.int (63 : Int32)), .val (.int (Int32.ofNat kk)), .val (.ref b131), .unset, .unset, .unset] [(.int (5 : Int32)), (.ref b131)]))
    refine Goes.go (fun _ kst => XS.iload X136.here hx rfl (hb hby at_72) rfl  kst) ?_
    show Goes p e below s _ _ _ (T136.setTop (mkF m 74 #[.val (.int p0), .val (.int p1), .val (.int (6 : Int32)), .val (.int (63 : Int32)), .val (.int (Int32.ofNat kk)), .val (.ref b131), .unset, .unset, .unset] [(.int (Int32.ofNat kk)), (.int (5 : Int32)), (.ref b131)]))
    obtain ⟨_, _, ⟨T137, L137, k137, n137⟩, -, X137, ⟨Lc137, hQ137, l137, y137, z137⟩, st137⟩ := Jvm.LawKit.callS X136 hx (y := (⟨"com/example/surety/surety/DecompositionAdvancePinLaw", "set", "([ZII)V"⟩ : MethodName)) hown (mvT hZ (hw _ (List.mem_of_getElem? (i := 2) rfl))) (mvT hZ (hw _ (List.mem_of_getElem? (i := 3) rfl))) (mvT hZ (hw _ (List.mem_of_getElem? (i := 4) rfl))) (mvT hZ (hw _ (List.mem_of_getElem? (i := 5) rfl))) (by decide) (backOf (W := 0) (rm1a l Z a0 hw [] b131 (5 : Int32) (Int32.ofNat kk) 6 (own_upd (own_upd (own_upd (own_upd (own_upd (fun _ => 0) 0 (nar .boolean (if (((Int32.ofNat kk) >>> ((0 : Int32) &&& 31)) &&& (1 : Int32)) = (0 : Int32) then (0 : Int32) else (1 : Int32)))) 1 (nar .boolean (if (((Int32.ofNat kk) >>> ((1 : Int32) &&& 31)) &&& (1 : Int32)) = (0 : Int32) then (0 : Int32) else (1 : Int32)))) 2 (nar .boolean (if (((Int32.ofNat kk) >>> ((2 : Int32) &&& 31)) &&& (1 : Int32)) = (0 : Int32) then (0 : Int32) else (1 : Int32)))) 3 (nar .boolean (if (((Int32.ofNat kk) >>> ((3 : Int32) &&& 31)) &&& (1 : Int32)) = (0 : Int32) then (0 : Int32) else (1 : Int32)))) 4 (nar .boolean (if (((Int32.ofNat kk) >>> ((4 : Int32) &&& 31)) &&& (1 : Int32)) = (0 : Int32) then (0 : Int32) else (1 : Int32)))) 5 h136 n0 Z136 G136_0 gb131 rfl (by decide)) hZ (hw _ (List.mem_of_getElem? (i := 5) rfl)) (hw _ (List.mem_of_getElem? (i := 4) rfl)) (by decide) (by decide)) (g := (mkF m 74 #[.val (.int p0), .val (.int p1), .val (.int (6 : Int32)), .val (.int (63 : Int32)), .val (.int (Int32.ofNat kk)), .val (.ref b131), .unset, .unset, .unset] [(.int (Int32.ofNat kk)), (.int (5 : Int32)), (.ref b131)])) rfl (by rw [hml]; rfl) (argsL := [(.ref b131), (.int (5 : Int32)), (.int (Int32.ofNat kk))]) (rest := []) (lenOf pd_0 rfl) rfl (by show 2 * 0 + _ ≤ _; exact Nat.le_of_eq rfl) (hb hby at_74) (fun _ _ => ⟨rfl, e136, (by decide : 1 + 0 ≤ _), (by decide : 6 + 0 ≤ _)⟩)
    dsimp only [Pt.U, Pt.locs, Pt.cells, Pt.slots] at X137 l137 y137 z137 st137 hQ137
    subst l137 y137 z137
    obtain ⟨h137, e137⟩ : ∃ z, T137.heap = z := ⟨_, rfl⟩
    rw [e137] at hQ137
    obtain ⟨rfl, N137q, Kq137, G137_0⟩ := hQ137
    have N137 := Fr.app N136 N137q
    have K137 := Keep.trans K136 Kq137 (allS (Or.inr sb131) all0)
    have Z137 := Nat.le_trans Z136 Kq137.1
    refine Goes.go st137 ?_
    have An138 := G137_0
    generalize hv_vv : (own_upd (own_upd (own_upd (own_upd (own_upd (own_upd (fun _ => 0) 0 (nar .boolean (if (((Int32.ofNat kk) >>> ((0 : Int32) &&& 31)) &&& (1 : Int32)) = (0 : Int32) then (0 : Int32) else (1 : Int32)))) 1 (nar .boolean (if (((Int32.ofNat kk) >>> ((1 : Int32) &&& 31)) &&& (1 : Int32)) = (0 : Int32) then (0 : Int32) else (1 : Int32)))) 2 (nar .boolean (if (((Int32.ofNat kk) >>> ((2 : Int32) &&& 31)) &&& (1 : Int32)) = (0 : Int32) then (0 : Int32) else (1 : Int32)))) 3 (nar .boolean (if (((Int32.ofNat kk) >>> ((3 : Int32) &&& 31)) &&& (1 : Int32)) = (0 : Int32) then (0 : Int32) else (1 : Int32)))) 4 (nar .boolean (if (((Int32.ofNat kk) >>> ((4 : Int32) &&& 31)) &&& (1 : Int32)) = (0 : Int32) then (0 : Int32) else (1 : Int32)))) 5 (nar .boolean (if (((Int32.ofNat kk) >>> ((5 : Int32) &&& 31)) &&& (1 : Int32)) = (0 : Int32) then (0 : Int32) else (1 : Int32)))) = vv at An138 hfz hall gg0 gg1 gg2 gg3 gg4 gg5
    show Goes p e below s _ _ _ (T137.setTop (mkF m 77 #[.val (.int p0), .val (.int p1), .val (.int (6 : Int32)), .val (.int (63 : Int32)), .val (.int (Int32.ofNat kk)), .val (.ref b131), .unset, .unset, .unset] []))
    refine Goes.go (fun _ kst => XS.aload X137.here hx rfl (hb hby at_77) rfl rfl  kst) ?_
    show Goes p e below s _ _ _ (T137.setTop (mkF m 79 #[.val (.int p0), .val (.int p1), .val (.int (6 : Int32)), .val (.int (63 : Int32)), .val (.int (Int32.ofNat kk)), .val (.ref b131), .unset, .unset, .unset] [(.ref b131)]))
    obtain ⟨_, _, ⟨T139, L139, k139, n139⟩, -, X139, ⟨Lc139, hQ139, l139, y139, z139⟩, st139⟩ := Jvm.LawKit.callS X137 hx (y := (⟨"com/example/surety/surety/Decomposition", "advance", "([Z)Z"⟩ : MethodName)) hown (mvT hZ (hw _ (List.mem_of_getElem? (i := 6) rfl))) (mvT hZ (hw _ (List.mem_of_getElem? (i := 7) rfl))) (mvT hZ (hw _ (List.mem_of_getElem? (i := 8) rfl))) (mvT hZ (hw _ (List.mem_of_getElem? (i := 9) rfl))) (by decide) (backOf (W := 0) (rm2 l Z a0 hw [] b131 6 vv h137 n0 Z137 An138 gb131 hfz) hZ (hw _ (List.mem_of_getElem? (i := 9) rfl)) (hw _ (List.mem_of_getElem? (i := 8) rfl)) (by decide) (by decide)) (g := (mkF m 79 #[.val (.int p0), .val (.int p1), .val (.int (6 : Int32)), .val (.int (63 : Int32)), .val (.int (Int32.ofNat kk)), .val (.ref b131), .unset, .unset, .unset] [(.ref b131)])) rfl (by rw [hml]; rfl) (argsL := [(.ref b131)]) (rest := []) (lenOf pd_1 rfl) rfl (by show 2 * 0 + _ ≤ _; exact Nat.le_of_eq rfl) (hb hby at_79) (fun _ _ => ⟨rfl, e137, (by decide : 1 + 0 ≤ _), (by decide : 6 + 0 ≤ _)⟩)
    dsimp only [Pt.U, Pt.locs, Pt.cells, Pt.slots] at X139 l139 y139 z139 st139 hQ139
    subst l139 y139 z139
    obtain ⟨h139, e139⟩ : ∃ z, T139.heap = z := ⟨_, rfl⟩
    rw [e139] at hQ139
    obtain ⟨rfl, N139q, Kq139, A139⟩ := hQ139
    have N139 := Fr.app N137 N139q
    have K139 := Keep.trans K137 Kq139 (allS (Or.inr sb131) all0)
    have Z139 := Nat.le_trans Z137 Kq139.1
    refine Goes.go st139 ?_
    show Goes p e below s _ _ _ (T139.setTop (mkF m 82 #[.val (.int p0), .val (.int p1), .val (.int (6 : Int32)), .val (.int (63 : Int32)), .val (.int (Int32.ofNat kk)), .val (.ref b131), .unset, .unset, .unset] [(.int (own_all (own_W vv 6) 6 0))]))
    refine Goes.go (fun _ kst => XS.istore X139.here hx rfl (hb hby at_82) rfl (l' := #[.val (.int p0), .val (.int p1), .val (.int (6 : Int32)), .val (.int (63 : Int32)), .val (.int (Int32.ofNat kk)), .val (.ref b131), .val (.int (own_all (own_W vv 6) 6 0)), .unset, .unset]) rfl kst) ?_
    show Goes p e below s _ _ _ (T139.setTop (mkF m 84 #[.val (.int p0), .val (.int p1), .val (.int (6 : Int32)), .val (.int (63 : Int32)), .val (.int (Int32.ofNat kk)), .val (.ref b131), .val (.int (own_all (own_W vv 6) 6 0)), .unset, .unset] []))
    refine Goes.go (fun _ kst => XS.iload X139.here hx rfl (hb hby at_84) rfl  kst) ?_
    show Goes p e below s _ _ _ (T139.setTop (mkF m 86 #[.val (.int p0), .val (.int p1), .val (.int (6 : Int32)), .val (.int (63 : Int32)), .val (.int (Int32.ofNat kk)), .val (.ref b131), .val (.int (own_all (own_W vv 6) 6 0)), .unset, .unset] [(.int (Int32.ofNat kk))]))
    refine Goes.go (fun _ kst => XS.iconst X139.here hx rfl (hb hby at_86) kst) ?_
    show Goes p e below s _ _ _ (T139.setTop (mkF m 87 #[.val (.int p0), .val (.int p1), .val (.int (6 : Int32)), .val (.int (63 : Int32)), .val (.int (Int32.ofNat kk)), .val (.ref b131), .val (.int (own_all (own_W vv 6) 6 0)), .unset, .unset] [(.int (1 : Int32)), (.int (Int32.ofNat kk))]))
    refine Goes.go (fun _ kst => XS.iadd X139.here hx rfl (hb hby at_87) rfl kst) ?_
    show Goes p e below s _ _ _ (T139.setTop (mkF m 88 #[.val (.int p0), .val (.int p1), .val (.int (6 : Int32)), .val (.int (63 : Int32)), .val (.int (Int32.ofNat kk)), .val (.ref b131), .val (.int (own_all (own_W vv 6) 6 0)), .unset, .unset] [(.int ((Int32.ofNat kk) + (1 : Int32)))]))
    refine Goes.go (fun _ kst => XS.istore X139.here hx rfl (hb hby at_88) rfl (l' := #[.val (.int p0), .val (.int p1), .val (.int (6 : Int32)), .val (.int (63 : Int32)), .val (.int (Int32.ofNat kk)), .val (.ref b131), .val (.int (own_all (own_W vv 6) 6 0)), .val (.int ((Int32.ofNat kk) + (1 : Int32))), .unset]) rfl kst) ?_
    show Goes p e below s _ _ _ (T139.setTop (mkF m 90 #[.val (.int p0), .val (.int p1), .val (.int (6 : Int32)), .val (.int (63 : Int32)), .val (.int (Int32.ofNat kk)), .val (.ref b131), .val (.int (own_all (own_W vv 6) 6 0)), .val (.int ((Int32.ofNat kk) + (1 : Int32))), .unset] []))
    refine Goes.go (fun _ kst => XS.aload X139.here hx rfl (hb hby at_90) rfl rfl  kst) ?_
    show Goes p e below s _ _ _ (T139.setTop (mkF m 92 #[.val (.int p0), .val (.int p1), .val (.int (6 : Int32)), .val (.int (63 : Int32)), .val (.int (Int32.ofNat kk)), .val (.ref b131), .val (.int (own_all (own_W vv 6) 6 0)), .val (.int ((Int32.ofNat kk) + (1 : Int32))), .unset] [(.ref b131)]))
    refine Goes.go (own_len X139 hx hZ e139 A139 (g := (mkF m 92 #[.val (.int p0), .val (.int p1), .val (.int (6 : Int32)), .val (.int (63 : Int32)), .val (.int (Int32.ofNat kk)), .val (.ref b131), .val (.int (own_all (own_W vv 6) 6 0)), .val (.int ((Int32.ofNat kk) + (1 : Int32))), .unset] [(.ref b131)])) rfl rfl (hb hby at_92)) ?_
    show Goes p e below s _ _ _ (T139.setTop (mkF m 93 #[.val (.int p0), .val (.int p1), .val (.int (6 : Int32)), .val (.int (63 : Int32)), .val (.int (Int32.ofNat kk)), .val (.ref b131), .val (.int (own_all (own_W vv 6) 6 0)), .val (.int ((Int32.ofNat kk) + (1 : Int32))), .unset] [(.int (6 : Int32))]))
    refine Goes.go (fun _ kst => XS.iloadN X139.here hx rfl (hb hby at_93) rfl  kst) ?_
    show Goes p e below s _ _ _ (T139.setTop (mkF m 94 #[.val (.int p0), .val (.int p1), .val (.int (6 : Int32)), .val (.int (63 : Int32)), .val (.int (Int32.ofNat kk)), .val (.ref b131), .val (.int (own_all (own_W vv 6) 6 0)), .val (.int ((Int32.ofNat kk) + (1 : Int32))), .unset] [(.int (6 : Int32)), (.int (6 : Int32))]))
    have hc94_140 : (6 : Int32) = (6 : Int32) := (by decide)
    refine Goes.go (fun _ kst => XS.icmpNo X139.here hx rfl (hb hby at_94) rfl (teq hc94_140).2 kst) ?_
    show Goes p e below s _ _ _ (T139.setTop (mkF m 97 #[.val (.int p0), .val (.int p1), .val (.int (6 : Int32)), .val (.int (63 : Int32)), .val (.int (Int32.ofNat kk)), .val (.ref b131), .val (.int (own_all (own_W vv 6) 6 0)), .val (.int ((Int32.ofNat kk) + (1 : Int32))), .unset] []))
    refine Goes.go (fun _ kst => XS.iload X139.here hx rfl (hb hby at_97) rfl  kst) ?_
    show Goes p e below s _ _ _ (T139.setTop (mkF m 99 #[.val (.int p0), .val (.int p1), .val (.int (6 : Int32)), .val (.int (63 : Int32)), .val (.int (Int32.ofNat kk)), .val (.ref b131), .val (.int (own_all (own_W vv 6) 6 0)), .val (.int ((Int32.ofNat kk) + (1 : Int32))), .unset] [(.int (own_all (own_W vv 6) 6 0))]))
    refine Goes.go (fun _ kst => XS.iload X139.here hx rfl (hb hby at_99) rfl  kst) ?_
    show Goes p e below s _ _ _ (T139.setTop (mkF m 101 #[.val (.int p0), .val (.int p1), .val (.int (6 : Int32)), .val (.int (63 : Int32)), .val (.int (Int32.ofNat kk)), .val (.ref b131), .val (.int (own_all (own_W vv 6) 6 0)), .val (.int ((Int32.ofNat kk) + (1 : Int32))), .unset] [(.int ((Int32.ofNat kk) + (1 : Int32))), (.int (own_all (own_W vv 6) 6 0))]))
    refine Goes.go (fun _ kst => XS.iloadN X139.here hx rfl (hb hby at_101) rfl  kst) ?_
    show Goes p e below s _ _ _ (T139.setTop (mkF m 102 #[.val (.int p0), .val (.int p1), .val (.int (6 : Int32)), .val (.int (63 : Int32)), .val (.int (Int32.ofNat kk)), .val (.ref b131), .val (.int (own_all (own_W vv 6) 6 0)), .val (.int ((Int32.ofNat kk) + (1 : Int32))), .unset] [(.int (63 : Int32)), (.int ((Int32.ofNat kk) + (1 : Int32))), (.int (own_all (own_W vv 6) 6 0))]))
    obtain ⟨z141_s0, hz141_s0⟩ : ∃ z : Int32, z = if ((Int32.ofNat kk) + (1 : Int32)) = (63 : Int32) then (0 : Int32) else (1 : Int32) := ⟨_, rfl⟩
    have sm141 : ∀ t, Steps p.tables e below (T139.setTop (mkF m 110 #[.val (.int p0), .val (.int p1), .val (.int (6 : Int32)), .val (.int (63 : Int32)), .val (.int (Int32.ofNat kk)), .val (.ref b131), .val (.int (own_all (own_W vv 6) 6 0)), .val (.int ((Int32.ofNat kk) + (1 : Int32))), .unset] [(.int z141_s0), (.int (own_all (own_W vv 6) 6 0))])) t → Steps p.tables e below (T139.setTop (mkF m 102 #[.val (.int p0), .val (.int p1), .val (.int (6 : Int32)), .val (.int (63 : Int32)), .val (.int (Int32.ofNat kk)), .val (.ref b131), .val (.int (own_all (own_W vv 6) 6 0)), .val (.int ((Int32.ofNat kk) + (1 : Int32))), .unset] [(.int (63 : Int32)), (.int ((Int32.ofNat kk) + (1 : Int32))), (.int (own_all (own_W vv 6) 6 0))])) t := by
      intro t kst
      by_cases hc102_141 : ((Int32.ofNat kk) + (1 : Int32)) = (63 : Int32)
      · have kst2 : Steps p.tables e below (T139.setTop (mkF m 110 #[.val (.int p0), .val (.int p1), .val (.int (6 : Int32)), .val (.int (63 : Int32)), .val (.int (Int32.ofNat kk)), .val (.ref b131), .val (.int (own_all (own_W vv 6) 6 0)), .val (.int ((Int32.ofNat kk) + (1 : Int32))), .unset] [(.int (0 : Int32)), (.int (own_all (own_W vv 6) 6 0))])) t := by simpa only [hz141_s0, if_pos hc102_141] using kst
        show Steps p.tables e below (T139.setTop (mkF m 102 #[.val (.int p0), .val (.int p1), .val (.int (6 : Int32)), .val (.int (63 : Int32)), .val (.int (Int32.ofNat kk)), .val (.ref b131), .val (.int (own_all (own_W vv 6) 6 0)), .val (.int ((Int32.ofNat kk) + (1 : Int32))), .unset] [(.int (63 : Int32)), (.int ((Int32.ofNat kk) + (1 : Int32))), (.int (own_all (own_W vv 6) 6 0))])) _
        refine XS.icmpYes X139.here hx rfl (pc0 := 102) (pc' := 109) rfl (hb hby at_102) rfl (teq hc102_141).1 (by decide) (by decide) ?_
        show Steps p.tables e below (T139.setTop (mkF m 109 #[.val (.int p0), .val (.int p1), .val (.int (6 : Int32)), .val (.int (63 : Int32)), .val (.int (Int32.ofNat kk)), .val (.ref b131), .val (.int (own_all (own_W vv 6) 6 0)), .val (.int ((Int32.ofNat kk) + (1 : Int32))), .unset] [(.int (own_all (own_W vv 6) 6 0))])) _
        refine XS.iconst X139.here hx rfl (hb hby at_109) ?_
        exact kst2
      · have kst2 : Steps p.tables e below (T139.setTop (mkF m 110 #[.val (.int p0), .val (.int p1), .val (.int (6 : Int32)), .val (.int (63 : Int32)), .val (.int (Int32.ofNat kk)), .val (.ref b131), .val (.int (own_all (own_W vv 6) 6 0)), .val (.int ((Int32.ofNat kk) + (1 : Int32))), .unset] [(.int (1 : Int32)), (.int (own_all (own_W vv 6) 6 0))])) t := by simpa only [hz141_s0, if_neg hc102_141] using kst
        show Steps p.tables e below (T139.setTop (mkF m 102 #[.val (.int p0), .val (.int p1), .val (.int (6 : Int32)), .val (.int (63 : Int32)), .val (.int (Int32.ofNat kk)), .val (.ref b131), .val (.int (own_all (own_W vv 6) 6 0)), .val (.int ((Int32.ofNat kk) + (1 : Int32))), .unset] [(.int (63 : Int32)), (.int ((Int32.ofNat kk) + (1 : Int32))), (.int (own_all (own_W vv 6) 6 0))])) _
        refine XS.icmpNo X139.here hx rfl (hb hby at_102) rfl (feq hc102_141).1 ?_
        show Steps p.tables e below (T139.setTop (mkF m 105 #[.val (.int p0), .val (.int p1), .val (.int (6 : Int32)), .val (.int (63 : Int32)), .val (.int (Int32.ofNat kk)), .val (.ref b131), .val (.int (own_all (own_W vv 6) 6 0)), .val (.int ((Int32.ofNat kk) + (1 : Int32))), .unset] [(.int (own_all (own_W vv 6) 6 0))])) _
        refine XS.iconst X139.here hx rfl (hb hby at_105) ?_
        show Steps p.tables e below (T139.setTop (mkF m 106 #[.val (.int p0), .val (.int p1), .val (.int (6 : Int32)), .val (.int (63 : Int32)), .val (.int (Int32.ofNat kk)), .val (.ref b131), .val (.int (own_all (own_W vv 6) 6 0)), .val (.int ((Int32.ofNat kk) + (1 : Int32))), .unset] [(.int (1 : Int32)), (.int (own_all (own_W vv 6) 6 0))])) _
        refine XS.goto X139.here hx rfl (pc0 := 106) (pc' := 110) rfl (hb hby at_106) (by decide) (by decide) ?_
        exact kst2
    refine Goes.go sm141 ?_
    show Goes p e below s _ _ _ (T139.setTop (mkF m 110 #[.val (.int p0), .val (.int p1), .val (.int (6 : Int32)), .val (.int (63 : Int32)), .val (.int (Int32.ofNat kk)), .val (.ref b131), .val (.int (own_all (own_W vv 6) 6 0)), .val (.int ((Int32.ofNat kk) + (1 : Int32))), .unset] [(.int z141_s0), (.int (own_all (own_W vv 6) 6 0))]))
    have hc110_142 : (own_all (own_W vv 6) 6 0) = z141_s0 := by rw [hz141_s0]; exact hall
    refine Goes.go (fun _ kst => XS.icmpNo X139.here hx rfl (hb hby at_110) rfl (teq hc110_142).2 kst) ?_
    show Goes p e below s _ _ _ (T139.setTop (mkF m 113 #[.val (.int p0), .val (.int p1), .val (.int (6 : Int32)), .val (.int (63 : Int32)), .val (.int (Int32.ofNat kk)), .val (.ref b131), .val (.int (own_all (own_W vv 6) 6 0)), .val (.int ((Int32.ofNat kk) + (1 : Int32))), .unset] []))
    refine Goes.go (fun _ kst => XS.iconst X139.here hx rfl (hb hby at_113) kst) ?_
    show Goes p e below s _ _ _ (T139.setTop (mkF m 114 #[.val (.int p0), .val (.int p1), .val (.int (6 : Int32)), .val (.int (63 : Int32)), .val (.int (Int32.ofNat kk)), .val (.ref b131), .val (.int (own_all (own_W vv 6) 6 0)), .val (.int ((Int32.ofNat kk) + (1 : Int32))), .unset] [(.int (1 : Int32))]))
    refine Goes.go (fun _ kst => XS.goto X139.here hx rfl (pc0 := 114) (pc' := 118) rfl (hb hby at_114) (by decide) (by decide) kst) ?_
    show Goes p e below s _ _ _ (T139.setTop (mkF m 118 #[.val (.int p0), .val (.int p1), .val (.int (6 : Int32)), .val (.int (63 : Int32)), .val (.int (Int32.ofNat kk)), .val (.ref b131), .val (.int (own_all (own_W vv 6) 6 0)), .val (.int ((Int32.ofNat kk) + (1 : Int32))), .unset] [(.int (1 : Int32))]))
    refine Goes.go (fun _ kst => XS.istore X139.here hx rfl (hb hby at_118) rfl (l' := #[.val (.int p0), .val (.int p1), .val (.int (6 : Int32)), .val (.int (63 : Int32)), .val (.int (Int32.ofNat kk)), .val (.ref b131), .val (.int (own_all (own_W vv 6) 6 0)), .val (.int ((Int32.ofNat kk) + (1 : Int32))), .val (.int (1 : Int32))]) rfl kst) ?_
    show Goes p e below s _ _ _ (T139.setTop (mkF m 120 #[.val (.int p0), .val (.int p1), .val (.int (6 : Int32)), .val (.int (63 : Int32)), .val (.int (Int32.ofNat kk)), .val (.ref b131), .val (.int (own_all (own_W vv 6) 6 0)), .val (.int ((Int32.ofNat kk) + (1 : Int32))), .val (.int (1 : Int32))] []))
    refine Goes.go (fun _ kst => XS.iload X139.here hx rfl (hb hby at_120) rfl  kst) ?_
    show Goes p e below s _ _ _ (T139.setTop (mkF m 122 #[.val (.int p0), .val (.int p1), .val (.int (6 : Int32)), .val (.int (63 : Int32)), .val (.int (Int32.ofNat kk)), .val (.ref b131), .val (.int (own_all (own_W vv 6) 6 0)), .val (.int ((Int32.ofNat kk) + (1 : Int32))), .val (.int (1 : Int32))] [(.int (1 : Int32))]))
    have hc122_143 : ¬ ((1 : Int32) = (0 : Int32)) := (by decide)
    refine Goes.go (fun _ kst => XS.ifNo X139.here hx rfl (hb hby at_122) rfl ((if0 _ _).trans (feq hc122_143).1) kst) ?_
    show Goes p e below s _ _ _ (T139.setTop (mkF m 125 #[.val (.int p0), .val (.int p1), .val (.int (6 : Int32)), .val (.int (63 : Int32)), .val (.int (Int32.ofNat kk)), .val (.ref b131), .val (.int (own_all (own_W vv 6) 6 0)), .val (.int ((Int32.ofNat kk) + (1 : Int32))), .val (.int (1 : Int32))] []))
    refine Goes.go (fun _ kst => XS.aload X139.here hx rfl (hb hby at_125) rfl rfl  kst) ?_
    show Goes p e below s _ _ _ (T139.setTop (mkF m 127 #[.val (.int p0), .val (.int p1), .val (.int (6 : Int32)), .val (.int (63 : Int32)), .val (.int (Int32.ofNat kk)), .val (.ref b131), .val (.int (own_all (own_W vv 6) 6 0)), .val (.int ((Int32.ofNat kk) + (1 : Int32))), .val (.int (1 : Int32))] [(.ref b131)]))
    refine Goes.go (fun _ kst => XS.iconst X139.here hx rfl (hb hby at_127) kst) ?_
    show Goes p e below s _ _ _ (T139.setTop (mkF m 128 #[.val (.int p0), .val (.int p1), .val (.int (6 : Int32)), .val (.int (63 : Int32)), .val (.int (Int32.ofNat kk)), .val (.ref b131), .val (.int (own_all (own_W vv 6) 6 0)), .val (.int ((Int32.ofNat kk) + (1 : Int32))), .val (.int (1 : Int32))] [(.int (0 : Int32)), (.ref b131)]))
    refine Goes.go (fun _ kst => XS.iload X139.here hx rfl (hb hby at_128) rfl  kst) ?_
    show Goes p e below s _ _ _ (T139.setTop (mkF m 130 #[.val (.int p0), .val (.int p1), .val (.int (6 : Int32)), .val (.int (63 : Int32)), .val (.int (Int32.ofNat kk)), .val (.ref b131), .val (.int (own_all (own_W vv 6) 6 0)), .val (.int ((Int32.ofNat kk) + (1 : Int32))), .val (.int (1 : Int32))] [(.int ((Int32.ofNat kk) + (1 : Int32))), (.int (0 : Int32)), (.ref b131)]))
    obtain ⟨_, _, ⟨T144, L144, k144, n144⟩, -, X144, ⟨Lc144, hQ144, l144, y144, z144⟩, st144⟩ := Jvm.LawKit.callS X139 hx (y := (⟨"com/example/surety/surety/DecompositionAdvancePinLaw", "same", "([ZII)Z"⟩ : MethodName)) hown (mvT hZ (hw _ (List.mem_of_getElem? (i := 10) rfl))) (mvT hZ (hw _ (List.mem_of_getElem? (i := 11) rfl))) (mvT hZ (hw _ (List.mem_of_getElem? (i := 4) rfl))) (mvT hZ (hw _ (List.mem_of_getElem? (i := 12) rfl))) (by decide) (backOf (W := 0) (rm3 l Z a0 hw [] b131 (0 : Int32) ((Int32.ofNat kk) + (1 : Int32)) 6 (own_W vv 6) 0 h139 n0 Z139 A139 rfl (by decide)) hZ (hw _ (List.mem_of_getElem? (i := 12) rfl)) (hw _ (List.mem_of_getElem? (i := 4) rfl)) (by decide) (by decide)) (g := (mkF m 130 #[.val (.int p0), .val (.int p1), .val (.int (6 : Int32)), .val (.int (63 : Int32)), .val (.int (Int32.ofNat kk)), .val (.ref b131), .val (.int (own_all (own_W vv 6) 6 0)), .val (.int ((Int32.ofNat kk) + (1 : Int32))), .val (.int (1 : Int32))] [(.int ((Int32.ofNat kk) + (1 : Int32))), (.int (0 : Int32)), (.ref b131)])) rfl (by rw [hml]; rfl) (argsL := [(.ref b131), (.int (0 : Int32)), (.int ((Int32.ofNat kk) + (1 : Int32)))]) (rest := []) (lenOf pd_2 rfl) rfl (by show 2 * 0 + _ ≤ _; exact Nat.le_of_eq rfl) (hb hby at_130) (fun _ _ => ⟨rfl, e139, (by decide : 1 + 0 ≤ _), (by decide : 6 + 0 ≤ _)⟩)
    dsimp only [Pt.U, Pt.locs, Pt.cells, Pt.slots] at X144 l144 y144 z144 st144 hQ144
    subst l144 y144 z144
    obtain ⟨rfl, N144q, e144⟩ := hQ144
    have N144 := Fr.app N139 N144q
    refine Goes.go st144 ?_
    show Goes p e below s _ _ _ (T144.setTop (mkF m 133 #[.val (.int p0), .val (.int p1), .val (.int (6 : Int32)), .val (.int (63 : Int32)), .val (.int (Int32.ofNat kk)), .val (.ref b131), .val (.int (own_all (own_W vv 6) 6 0)), .val (.int ((Int32.ofNat kk) + (1 : Int32))), .val (.int (1 : Int32))] [(.int (f3 b131 (0 : Int32) ((Int32.ofNat kk) + (1 : Int32)) 6 (own_W vv 6) 0))]))
    have hc133_145 : ¬ ((f3 b131 (0 : Int32) ((Int32.ofNat kk) + (1 : Int32)) 6 (own_W vv 6) 0) = (0 : Int32)) := gg0
    refine Goes.go (fun _ kst => XS.ifNo X144.here hx rfl (hb hby at_133) rfl ((if0 _ _).trans (feq hc133_145).1) kst) ?_
    show Goes p e below s _ _ _ (T144.setTop (mkF m 136 #[.val (.int p0), .val (.int p1), .val (.int (6 : Int32)), .val (.int (63 : Int32)), .val (.int (Int32.ofNat kk)), .val (.ref b131), .val (.int (own_all (own_W vv 6) 6 0)), .val (.int ((Int32.ofNat kk) + (1 : Int32))), .val (.int (1 : Int32))] []))
    refine Goes.go (fun _ kst => XS.aload X144.here hx rfl (hb hby at_136) rfl rfl  kst) ?_
    show Goes p e below s _ _ _ (T144.setTop (mkF m 138 #[.val (.int p0), .val (.int p1), .val (.int (6 : Int32)), .val (.int (63 : Int32)), .val (.int (Int32.ofNat kk)), .val (.ref b131), .val (.int (own_all (own_W vv 6) 6 0)), .val (.int ((Int32.ofNat kk) + (1 : Int32))), .val (.int (1 : Int32))] [(.ref b131)]))
    refine Goes.go (fun _ kst => XS.iconst X144.here hx rfl (hb hby at_138) kst) ?_
    show Goes p e below s _ _ _ (T144.setTop (mkF m 139 #[.val (.int p0), .val (.int p1), .val (.int (6 : Int32)), .val (.int (63 : Int32)), .val (.int (Int32.ofNat kk)), .val (.ref b131), .val (.int (own_all (own_W vv 6) 6 0)), .val (.int ((Int32.ofNat kk) + (1 : Int32))), .val (.int (1 : Int32))] [(.int (1 : Int32)), (.ref b131)]))
    refine Goes.go (fun _ kst => XS.iload X144.here hx rfl (hb hby at_139) rfl  kst) ?_
    show Goes p e below s _ _ _ (T144.setTop (mkF m 141 #[.val (.int p0), .val (.int p1), .val (.int (6 : Int32)), .val (.int (63 : Int32)), .val (.int (Int32.ofNat kk)), .val (.ref b131), .val (.int (own_all (own_W vv 6) 6 0)), .val (.int ((Int32.ofNat kk) + (1 : Int32))), .val (.int (1 : Int32))] [(.int ((Int32.ofNat kk) + (1 : Int32))), (.int (1 : Int32)), (.ref b131)]))
    obtain ⟨_, _, ⟨T146, L146, k146, n146⟩, -, X146, ⟨Lc146, hQ146, l146, y146, z146⟩, st146⟩ := Jvm.LawKit.callS X144 hx (y := (⟨"com/example/surety/surety/DecompositionAdvancePinLaw", "same", "([ZII)Z"⟩ : MethodName)) hown (mvT hZ (hw _ (List.mem_of_getElem? (i := 10) rfl))) (mvT hZ (hw _ (List.mem_of_getElem? (i := 11) rfl))) (mvT hZ (hw _ (List.mem_of_getElem? (i := 4) rfl))) (mvT hZ (hw _ (List.mem_of_getElem? (i := 12) rfl))) (by decide) (backOf (W := 0) (rm3 l Z a0 hw [] b131 (1 : Int32) ((Int32.ofNat kk) + (1 : Int32)) 6 (own_W vv 6) 1 h139 n0 Z139 A139 rfl (by decide)) hZ (hw _ (List.mem_of_getElem? (i := 12) rfl)) (hw _ (List.mem_of_getElem? (i := 4) rfl)) (by decide) (by decide)) (g := (mkF m 141 #[.val (.int p0), .val (.int p1), .val (.int (6 : Int32)), .val (.int (63 : Int32)), .val (.int (Int32.ofNat kk)), .val (.ref b131), .val (.int (own_all (own_W vv 6) 6 0)), .val (.int ((Int32.ofNat kk) + (1 : Int32))), .val (.int (1 : Int32))] [(.int ((Int32.ofNat kk) + (1 : Int32))), (.int (1 : Int32)), (.ref b131)])) rfl (by rw [hml]; rfl) (argsL := [(.ref b131), (.int (1 : Int32)), (.int ((Int32.ofNat kk) + (1 : Int32)))]) (rest := []) (lenOf pd_2 rfl) rfl (by show 2 * 0 + _ ≤ _; exact Nat.le_of_eq rfl) (hb hby at_141) (fun _ _ => ⟨rfl, e144, (by decide : 1 + 0 ≤ _), (by decide : 6 + 0 ≤ _)⟩)
    dsimp only [Pt.U, Pt.locs, Pt.cells, Pt.slots] at X146 l146 y146 z146 st146 hQ146
    subst l146 y146 z146
    obtain ⟨rfl, N146q, e146⟩ := hQ146
    have N146 := Fr.app N144 N146q
    refine Goes.go st146 ?_
    show Goes p e below s _ _ _ (T146.setTop (mkF m 144 #[.val (.int p0), .val (.int p1), .val (.int (6 : Int32)), .val (.int (63 : Int32)), .val (.int (Int32.ofNat kk)), .val (.ref b131), .val (.int (own_all (own_W vv 6) 6 0)), .val (.int ((Int32.ofNat kk) + (1 : Int32))), .val (.int (1 : Int32))] [(.int (f3 b131 (1 : Int32) ((Int32.ofNat kk) + (1 : Int32)) 6 (own_W vv 6) 1))]))
    have hc144_147 : ¬ ((f3 b131 (1 : Int32) ((Int32.ofNat kk) + (1 : Int32)) 6 (own_W vv 6) 1) = (0 : Int32)) := gg1
    refine Goes.go (fun _ kst => XS.ifNo X146.here hx rfl (hb hby at_144) rfl ((if0 _ _).trans (feq hc144_147).1) kst) ?_
    show Goes p e below s _ _ _ (T146.setTop (mkF m 147 #[.val (.int p0), .val (.int p1), .val (.int (6 : Int32)), .val (.int (63 : Int32)), .val (.int (Int32.ofNat kk)), .val (.ref b131), .val (.int (own_all (own_W vv 6) 6 0)), .val (.int ((Int32.ofNat kk) + (1 : Int32))), .val (.int (1 : Int32))] []))
    refine Goes.go (fun _ kst => XS.aload X146.here hx rfl (hb hby at_147) rfl rfl  kst) ?_
    show Goes p e below s _ _ _ (T146.setTop (mkF m 149 #[.val (.int p0), .val (.int p1), .val (.int (6 : Int32)), .val (.int (63 : Int32)), .val (.int (Int32.ofNat kk)), .val (.ref b131), .val (.int (own_all (own_W vv 6) 6 0)), .val (.int ((Int32.ofNat kk) + (1 : Int32))), .val (.int (1 : Int32))] [(.ref b131)]))
    refine Goes.go (fun _ kst => XS.iconst X146.here hx rfl (hb hby at_149) kst) ?_
    show Goes p e below s _ _ _ (T146.setTop (mkF m 150 #[.val (.int p0), .val (.int p1), .val (.int (6 : Int32)), .val (.int (63 : Int32)), .val (.int (Int32.ofNat kk)), .val (.ref b131), .val (.int (own_all (own_W vv 6) 6 0)), .val (.int ((Int32.ofNat kk) + (1 : Int32))), .val (.int (1 : Int32))] [(.int (2 : Int32)), (.ref b131)]))
    refine Goes.go (fun _ kst => XS.iload X146.here hx rfl (hb hby at_150) rfl  kst) ?_
    show Goes p e below s _ _ _ (T146.setTop (mkF m 152 #[.val (.int p0), .val (.int p1), .val (.int (6 : Int32)), .val (.int (63 : Int32)), .val (.int (Int32.ofNat kk)), .val (.ref b131), .val (.int (own_all (own_W vv 6) 6 0)), .val (.int ((Int32.ofNat kk) + (1 : Int32))), .val (.int (1 : Int32))] [(.int ((Int32.ofNat kk) + (1 : Int32))), (.int (2 : Int32)), (.ref b131)]))
    obtain ⟨_, _, ⟨T148, L148, k148, n148⟩, -, X148, ⟨Lc148, hQ148, l148, y148, z148⟩, st148⟩ := Jvm.LawKit.callS X146 hx (y := (⟨"com/example/surety/surety/DecompositionAdvancePinLaw", "same", "([ZII)Z"⟩ : MethodName)) hown (mvT hZ (hw _ (List.mem_of_getElem? (i := 10) rfl))) (mvT hZ (hw _ (List.mem_of_getElem? (i := 11) rfl))) (mvT hZ (hw _ (List.mem_of_getElem? (i := 4) rfl))) (mvT hZ (hw _ (List.mem_of_getElem? (i := 12) rfl))) (by decide) (backOf (W := 0) (rm3 l Z a0 hw [] b131 (2 : Int32) ((Int32.ofNat kk) + (1 : Int32)) 6 (own_W vv 6) 2 h139 n0 Z139 A139 rfl (by decide)) hZ (hw _ (List.mem_of_getElem? (i := 12) rfl)) (hw _ (List.mem_of_getElem? (i := 4) rfl)) (by decide) (by decide)) (g := (mkF m 152 #[.val (.int p0), .val (.int p1), .val (.int (6 : Int32)), .val (.int (63 : Int32)), .val (.int (Int32.ofNat kk)), .val (.ref b131), .val (.int (own_all (own_W vv 6) 6 0)), .val (.int ((Int32.ofNat kk) + (1 : Int32))), .val (.int (1 : Int32))] [(.int ((Int32.ofNat kk) + (1 : Int32))), (.int (2 : Int32)), (.ref b131)])) rfl (by rw [hml]; rfl) (argsL := [(.ref b131), (.int (2 : Int32)), (.int ((Int32.ofNat kk) + (1 : Int32)))]) (rest := []) (lenOf pd_2 rfl) rfl (by show 2 * 0 + _ ≤ _; exact Nat.le_of_eq rfl) (hb hby at_152) (fun _ _ => ⟨rfl, e146, (by decide : 1 + 0 ≤ _), (by decide : 6 + 0 ≤ _)⟩)
    dsimp only [Pt.U, Pt.locs, Pt.cells, Pt.slots] at X148 l148 y148 z148 st148 hQ148
    subst l148 y148 z148
    obtain ⟨rfl, N148q, e148⟩ := hQ148
    have N148 := Fr.app N146 N148q
    refine Goes.go st148 ?_
    show Goes p e below s _ _ _ (T148.setTop (mkF m 155 #[.val (.int p0), .val (.int p1), .val (.int (6 : Int32)), .val (.int (63 : Int32)), .val (.int (Int32.ofNat kk)), .val (.ref b131), .val (.int (own_all (own_W vv 6) 6 0)), .val (.int ((Int32.ofNat kk) + (1 : Int32))), .val (.int (1 : Int32))] [(.int (f3 b131 (2 : Int32) ((Int32.ofNat kk) + (1 : Int32)) 6 (own_W vv 6) 2))]))
    have hc155_149 : ¬ ((f3 b131 (2 : Int32) ((Int32.ofNat kk) + (1 : Int32)) 6 (own_W vv 6) 2) = (0 : Int32)) := gg2
    refine Goes.go (fun _ kst => XS.ifNo X148.here hx rfl (hb hby at_155) rfl ((if0 _ _).trans (feq hc155_149).1) kst) ?_
    show Goes p e below s _ _ _ (T148.setTop (mkF m 158 #[.val (.int p0), .val (.int p1), .val (.int (6 : Int32)), .val (.int (63 : Int32)), .val (.int (Int32.ofNat kk)), .val (.ref b131), .val (.int (own_all (own_W vv 6) 6 0)), .val (.int ((Int32.ofNat kk) + (1 : Int32))), .val (.int (1 : Int32))] []))
    refine Goes.go (fun _ kst => XS.iconst X148.here hx rfl (hb hby at_158) kst) ?_
    show Goes p e below s _ _ _ (T148.setTop (mkF m 159 #[.val (.int p0), .val (.int p1), .val (.int (6 : Int32)), .val (.int (63 : Int32)), .val (.int (Int32.ofNat kk)), .val (.ref b131), .val (.int (own_all (own_W vv 6) 6 0)), .val (.int ((Int32.ofNat kk) + (1 : Int32))), .val (.int (1 : Int32))] [(.int (1 : Int32))]))
    refine Goes.go (fun _ kst => XS.goto X148.here hx rfl (pc0 := 159) (pc' := 163) rfl (hb hby at_159) (by decide) (by decide) kst) ?_
    show Goes p e below s _ _ _ (T148.setTop (mkF m 163 #[.val (.int p0), .val (.int p1), .val (.int (6 : Int32)), .val (.int (63 : Int32)), .val (.int (Int32.ofNat kk)), .val (.ref b131), .val (.int (own_all (own_W vv 6) 6 0)), .val (.int ((Int32.ofNat kk) + (1 : Int32))), .val (.int (1 : Int32))] [(.int (1 : Int32))]))
    refine Goes.go (fun _ kst => XS.istore X148.here hx rfl (hb hby at_163) rfl (l' := #[.val (.int p0), .val (.int p1), .val (.int (6 : Int32)), .val (.int (63 : Int32)), .val (.int (Int32.ofNat kk)), .val (.ref b131), .val (.int (own_all (own_W vv 6) 6 0)), .val (.int ((Int32.ofNat kk) + (1 : Int32))), .val (.int (1 : Int32))]) rfl kst) ?_
    show Goes p e below s _ _ _ (T148.setTop (mkF m 165 #[.val (.int p0), .val (.int p1), .val (.int (6 : Int32)), .val (.int (63 : Int32)), .val (.int (Int32.ofNat kk)), .val (.ref b131), .val (.int (own_all (own_W vv 6) 6 0)), .val (.int ((Int32.ofNat kk) + (1 : Int32))), .val (.int (1 : Int32))] []))
    refine Goes.go (fun _ kst => XS.iload X148.here hx rfl (hb hby at_165) rfl  kst) ?_
    show Goes p e below s _ _ _ (T148.setTop (mkF m 167 #[.val (.int p0), .val (.int p1), .val (.int (6 : Int32)), .val (.int (63 : Int32)), .val (.int (Int32.ofNat kk)), .val (.ref b131), .val (.int (own_all (own_W vv 6) 6 0)), .val (.int ((Int32.ofNat kk) + (1 : Int32))), .val (.int (1 : Int32))] [(.int (1 : Int32))]))
    have hc167_150 : ¬ ((1 : Int32) = (0 : Int32)) := (by decide)
    refine Goes.go (fun _ kst => XS.ifNo X148.here hx rfl (hb hby at_167) rfl ((if0 _ _).trans (feq hc167_150).1) kst) ?_
    show Goes p e below s _ _ _ (T148.setTop (mkF m 170 #[.val (.int p0), .val (.int p1), .val (.int (6 : Int32)), .val (.int (63 : Int32)), .val (.int (Int32.ofNat kk)), .val (.ref b131), .val (.int (own_all (own_W vv 6) 6 0)), .val (.int ((Int32.ofNat kk) + (1 : Int32))), .val (.int (1 : Int32))] []))
    refine Goes.go (fun _ kst => XS.aload X148.here hx rfl (hb hby at_170) rfl rfl  kst) ?_
    show Goes p e below s _ _ _ (T148.setTop (mkF m 172 #[.val (.int p0), .val (.int p1), .val (.int (6 : Int32)), .val (.int (63 : Int32)), .val (.int (Int32.ofNat kk)), .val (.ref b131), .val (.int (own_all (own_W vv 6) 6 0)), .val (.int ((Int32.ofNat kk) + (1 : Int32))), .val (.int (1 : Int32))] [(.ref b131)]))
    refine Goes.go (fun _ kst => XS.iconst X148.here hx rfl (hb hby at_172) kst) ?_
    show Goes p e below s _ _ _ (T148.setTop (mkF m 173 #[.val (.int p0), .val (.int p1), .val (.int (6 : Int32)), .val (.int (63 : Int32)), .val (.int (Int32.ofNat kk)), .val (.ref b131), .val (.int (own_all (own_W vv 6) 6 0)), .val (.int ((Int32.ofNat kk) + (1 : Int32))), .val (.int (1 : Int32))] [(.int (3 : Int32)), (.ref b131)]))
    refine Goes.go (fun _ kst => XS.iload X148.here hx rfl (hb hby at_173) rfl  kst) ?_
    show Goes p e below s _ _ _ (T148.setTop (mkF m 175 #[.val (.int p0), .val (.int p1), .val (.int (6 : Int32)), .val (.int (63 : Int32)), .val (.int (Int32.ofNat kk)), .val (.ref b131), .val (.int (own_all (own_W vv 6) 6 0)), .val (.int ((Int32.ofNat kk) + (1 : Int32))), .val (.int (1 : Int32))] [(.int ((Int32.ofNat kk) + (1 : Int32))), (.int (3 : Int32)), (.ref b131)]))
    obtain ⟨_, _, ⟨T151, L151, k151, n151⟩, -, X151, ⟨Lc151, hQ151, l151, y151, z151⟩, st151⟩ := Jvm.LawKit.callS X148 hx (y := (⟨"com/example/surety/surety/DecompositionAdvancePinLaw", "same", "([ZII)Z"⟩ : MethodName)) hown (mvT hZ (hw _ (List.mem_of_getElem? (i := 10) rfl))) (mvT hZ (hw _ (List.mem_of_getElem? (i := 11) rfl))) (mvT hZ (hw _ (List.mem_of_getElem? (i := 4) rfl))) (mvT hZ (hw _ (List.mem_of_getElem? (i := 12) rfl))) (by decide) (backOf (W := 0) (rm3 l Z a0 hw [] b131 (3 : Int32) ((Int32.ofNat kk) + (1 : Int32)) 6 (own_W vv 6) 3 h139 n0 Z139 A139 rfl (by decide)) hZ (hw _ (List.mem_of_getElem? (i := 12) rfl)) (hw _ (List.mem_of_getElem? (i := 4) rfl)) (by decide) (by decide)) (g := (mkF m 175 #[.val (.int p0), .val (.int p1), .val (.int (6 : Int32)), .val (.int (63 : Int32)), .val (.int (Int32.ofNat kk)), .val (.ref b131), .val (.int (own_all (own_W vv 6) 6 0)), .val (.int ((Int32.ofNat kk) + (1 : Int32))), .val (.int (1 : Int32))] [(.int ((Int32.ofNat kk) + (1 : Int32))), (.int (3 : Int32)), (.ref b131)])) rfl (by rw [hml]; rfl) (argsL := [(.ref b131), (.int (3 : Int32)), (.int ((Int32.ofNat kk) + (1 : Int32)))]) (rest := []) (lenOf pd_2 rfl) rfl (by show 2 * 0 + _ ≤ _; exact Nat.le_of_eq rfl) (hb hby at_175) (fun _ _ => ⟨rfl, e148, (by decide : 1 + 0 ≤ _), (by decide : 6 + 0 ≤ _)⟩)
    dsimp only [Pt.U, Pt.locs, Pt.cells, Pt.slots] at X151 l151 y151 z151 st151 hQ151
    subst l151 y151 z151
    obtain ⟨rfl, N151q, e151⟩ := hQ151
    have N151 := Fr.app N148 N151q
    refine Goes.go st151 ?_
    show Goes p e below s _ _ _ (T151.setTop (mkF m 178 #[.val (.int p0), .val (.int p1), .val (.int (6 : Int32)), .val (.int (63 : Int32)), .val (.int (Int32.ofNat kk)), .val (.ref b131), .val (.int (own_all (own_W vv 6) 6 0)), .val (.int ((Int32.ofNat kk) + (1 : Int32))), .val (.int (1 : Int32))] [(.int (f3 b131 (3 : Int32) ((Int32.ofNat kk) + (1 : Int32)) 6 (own_W vv 6) 3))]))
    have hc178_152 : ¬ ((f3 b131 (3 : Int32) ((Int32.ofNat kk) + (1 : Int32)) 6 (own_W vv 6) 3) = (0 : Int32)) := gg3
    refine Goes.go (fun _ kst => XS.ifNo X151.here hx rfl (hb hby at_178) rfl ((if0 _ _).trans (feq hc178_152).1) kst) ?_
    show Goes p e below s _ _ _ (T151.setTop (mkF m 181 #[.val (.int p0), .val (.int p1), .val (.int (6 : Int32)), .val (.int (63 : Int32)), .val (.int (Int32.ofNat kk)), .val (.ref b131), .val (.int (own_all (own_W vv 6) 6 0)), .val (.int ((Int32.ofNat kk) + (1 : Int32))), .val (.int (1 : Int32))] []))
    refine Goes.go (fun _ kst => XS.aload X151.here hx rfl (hb hby at_181) rfl rfl  kst) ?_
    show Goes p e below s _ _ _ (T151.setTop (mkF m 183 #[.val (.int p0), .val (.int p1), .val (.int (6 : Int32)), .val (.int (63 : Int32)), .val (.int (Int32.ofNat kk)), .val (.ref b131), .val (.int (own_all (own_W vv 6) 6 0)), .val (.int ((Int32.ofNat kk) + (1 : Int32))), .val (.int (1 : Int32))] [(.ref b131)]))
    refine Goes.go (fun _ kst => XS.iconst X151.here hx rfl (hb hby at_183) kst) ?_
    show Goes p e below s _ _ _ (T151.setTop (mkF m 184 #[.val (.int p0), .val (.int p1), .val (.int (6 : Int32)), .val (.int (63 : Int32)), .val (.int (Int32.ofNat kk)), .val (.ref b131), .val (.int (own_all (own_W vv 6) 6 0)), .val (.int ((Int32.ofNat kk) + (1 : Int32))), .val (.int (1 : Int32))] [(.int (4 : Int32)), (.ref b131)]))
    refine Goes.go (fun _ kst => XS.iload X151.here hx rfl (hb hby at_184) rfl  kst) ?_
    show Goes p e below s _ _ _ (T151.setTop (mkF m 186 #[.val (.int p0), .val (.int p1), .val (.int (6 : Int32)), .val (.int (63 : Int32)), .val (.int (Int32.ofNat kk)), .val (.ref b131), .val (.int (own_all (own_W vv 6) 6 0)), .val (.int ((Int32.ofNat kk) + (1 : Int32))), .val (.int (1 : Int32))] [(.int ((Int32.ofNat kk) + (1 : Int32))), (.int (4 : Int32)), (.ref b131)]))
    obtain ⟨_, _, ⟨T153, L153, k153, n153⟩, -, X153, ⟨Lc153, hQ153, l153, y153, z153⟩, st153⟩ := Jvm.LawKit.callS X151 hx (y := (⟨"com/example/surety/surety/DecompositionAdvancePinLaw", "same", "([ZII)Z"⟩ : MethodName)) hown (mvT hZ (hw _ (List.mem_of_getElem? (i := 10) rfl))) (mvT hZ (hw _ (List.mem_of_getElem? (i := 11) rfl))) (mvT hZ (hw _ (List.mem_of_getElem? (i := 4) rfl))) (mvT hZ (hw _ (List.mem_of_getElem? (i := 12) rfl))) (by decide) (backOf (W := 0) (rm3 l Z a0 hw [] b131 (4 : Int32) ((Int32.ofNat kk) + (1 : Int32)) 6 (own_W vv 6) 4 h139 n0 Z139 A139 rfl (by decide)) hZ (hw _ (List.mem_of_getElem? (i := 12) rfl)) (hw _ (List.mem_of_getElem? (i := 4) rfl)) (by decide) (by decide)) (g := (mkF m 186 #[.val (.int p0), .val (.int p1), .val (.int (6 : Int32)), .val (.int (63 : Int32)), .val (.int (Int32.ofNat kk)), .val (.ref b131), .val (.int (own_all (own_W vv 6) 6 0)), .val (.int ((Int32.ofNat kk) + (1 : Int32))), .val (.int (1 : Int32))] [(.int ((Int32.ofNat kk) + (1 : Int32))), (.int (4 : Int32)), (.ref b131)])) rfl (by rw [hml]; rfl) (argsL := [(.ref b131), (.int (4 : Int32)), (.int ((Int32.ofNat kk) + (1 : Int32)))]) (rest := []) (lenOf pd_2 rfl) rfl (by show 2 * 0 + _ ≤ _; exact Nat.le_of_eq rfl) (hb hby at_186) (fun _ _ => ⟨rfl, e151, (by decide : 1 + 0 ≤ _), (by decide : 6 + 0 ≤ _)⟩)
    dsimp only [Pt.U, Pt.locs, Pt.cells, Pt.slots] at X153 l153 y153 z153 st153 hQ153
    subst l153 y153 z153
    obtain ⟨rfl, N153q, e153⟩ := hQ153
    have N153 := Fr.app N151 N153q
    refine Goes.go st153 ?_
    show Goes p e below s _ _ _ (T153.setTop (mkF m 189 #[.val (.int p0), .val (.int p1), .val (.int (6 : Int32)), .val (.int (63 : Int32)), .val (.int (Int32.ofNat kk)), .val (.ref b131), .val (.int (own_all (own_W vv 6) 6 0)), .val (.int ((Int32.ofNat kk) + (1 : Int32))), .val (.int (1 : Int32))] [(.int (f3 b131 (4 : Int32) ((Int32.ofNat kk) + (1 : Int32)) 6 (own_W vv 6) 4))]))
    have hc189_154 : ¬ ((f3 b131 (4 : Int32) ((Int32.ofNat kk) + (1 : Int32)) 6 (own_W vv 6) 4) = (0 : Int32)) := gg4
    refine Goes.go (fun _ kst => XS.ifNo X153.here hx rfl (hb hby at_189) rfl ((if0 _ _).trans (feq hc189_154).1) kst) ?_
    show Goes p e below s _ _ _ (T153.setTop (mkF m 192 #[.val (.int p0), .val (.int p1), .val (.int (6 : Int32)), .val (.int (63 : Int32)), .val (.int (Int32.ofNat kk)), .val (.ref b131), .val (.int (own_all (own_W vv 6) 6 0)), .val (.int ((Int32.ofNat kk) + (1 : Int32))), .val (.int (1 : Int32))] []))
    refine Goes.go (fun _ kst => XS.aload X153.here hx rfl (hb hby at_192) rfl rfl  kst) ?_
    show Goes p e below s _ _ _ (T153.setTop (mkF m 194 #[.val (.int p0), .val (.int p1), .val (.int (6 : Int32)), .val (.int (63 : Int32)), .val (.int (Int32.ofNat kk)), .val (.ref b131), .val (.int (own_all (own_W vv 6) 6 0)), .val (.int ((Int32.ofNat kk) + (1 : Int32))), .val (.int (1 : Int32))] [(.ref b131)]))
    refine Goes.go (fun _ kst => XS.iconst X153.here hx rfl (hb hby at_194) kst) ?_
    show Goes p e below s _ _ _ (T153.setTop (mkF m 195 #[.val (.int p0), .val (.int p1), .val (.int (6 : Int32)), .val (.int (63 : Int32)), .val (.int (Int32.ofNat kk)), .val (.ref b131), .val (.int (own_all (own_W vv 6) 6 0)), .val (.int ((Int32.ofNat kk) + (1 : Int32))), .val (.int (1 : Int32))] [(.int (5 : Int32)), (.ref b131)]))
    refine Goes.go (fun _ kst => XS.iload X153.here hx rfl (hb hby at_195) rfl  kst) ?_
    show Goes p e below s _ _ _ (T153.setTop (mkF m 197 #[.val (.int p0), .val (.int p1), .val (.int (6 : Int32)), .val (.int (63 : Int32)), .val (.int (Int32.ofNat kk)), .val (.ref b131), .val (.int (own_all (own_W vv 6) 6 0)), .val (.int ((Int32.ofNat kk) + (1 : Int32))), .val (.int (1 : Int32))] [(.int ((Int32.ofNat kk) + (1 : Int32))), (.int (5 : Int32)), (.ref b131)]))
    obtain ⟨_, _, ⟨T155, L155, k155, n155⟩, -, X155, ⟨Lc155, hQ155, l155, y155, z155⟩, st155⟩ := Jvm.LawKit.callS X153 hx (y := (⟨"com/example/surety/surety/DecompositionAdvancePinLaw", "same", "([ZII)Z"⟩ : MethodName)) hown (mvT hZ (hw _ (List.mem_of_getElem? (i := 10) rfl))) (mvT hZ (hw _ (List.mem_of_getElem? (i := 11) rfl))) (mvT hZ (hw _ (List.mem_of_getElem? (i := 4) rfl))) (mvT hZ (hw _ (List.mem_of_getElem? (i := 12) rfl))) (by decide) (backOf (W := 0) (rm3 l Z a0 hw [] b131 (5 : Int32) ((Int32.ofNat kk) + (1 : Int32)) 6 (own_W vv 6) 5 h139 n0 Z139 A139 rfl (by decide)) hZ (hw _ (List.mem_of_getElem? (i := 12) rfl)) (hw _ (List.mem_of_getElem? (i := 4) rfl)) (by decide) (by decide)) (g := (mkF m 197 #[.val (.int p0), .val (.int p1), .val (.int (6 : Int32)), .val (.int (63 : Int32)), .val (.int (Int32.ofNat kk)), .val (.ref b131), .val (.int (own_all (own_W vv 6) 6 0)), .val (.int ((Int32.ofNat kk) + (1 : Int32))), .val (.int (1 : Int32))] [(.int ((Int32.ofNat kk) + (1 : Int32))), (.int (5 : Int32)), (.ref b131)])) rfl (by rw [hml]; rfl) (argsL := [(.ref b131), (.int (5 : Int32)), (.int ((Int32.ofNat kk) + (1 : Int32)))]) (rest := []) (lenOf pd_2 rfl) rfl (by show 2 * 0 + _ ≤ _; exact Nat.le_of_eq rfl) (hb hby at_197) (fun _ _ => ⟨rfl, e153, (by decide : 1 + 0 ≤ _), (by decide : 6 + 0 ≤ _)⟩)
    dsimp only [Pt.U, Pt.locs, Pt.cells, Pt.slots] at X155 l155 y155 z155 st155 hQ155
    subst l155 y155 z155
    obtain ⟨rfl, N155q, e155⟩ := hQ155
    have N155 := Fr.app N153 N155q
    refine Goes.go st155 ?_
    show Goes p e below s _ _ _ (T155.setTop (mkF m 200 #[.val (.int p0), .val (.int p1), .val (.int (6 : Int32)), .val (.int (63 : Int32)), .val (.int (Int32.ofNat kk)), .val (.ref b131), .val (.int (own_all (own_W vv 6) 6 0)), .val (.int ((Int32.ofNat kk) + (1 : Int32))), .val (.int (1 : Int32))] [(.int (f3 b131 (5 : Int32) ((Int32.ofNat kk) + (1 : Int32)) 6 (own_W vv 6) 5))]))
    have hc200_156 : ¬ ((f3 b131 (5 : Int32) ((Int32.ofNat kk) + (1 : Int32)) 6 (own_W vv 6) 5) = (0 : Int32)) := gg5
    refine Goes.go (fun _ kst => XS.ifNo X155.here hx rfl (hb hby at_200) rfl ((if0 _ _).trans (feq hc200_156).1) kst) ?_
    show Goes p e below s _ _ _ (T155.setTop (mkF m 203 #[.val (.int p0), .val (.int p1), .val (.int (6 : Int32)), .val (.int (63 : Int32)), .val (.int (Int32.ofNat kk)), .val (.ref b131), .val (.int (own_all (own_W vv 6) 6 0)), .val (.int ((Int32.ofNat kk) + (1 : Int32))), .val (.int (1 : Int32))] []))
    refine Goes.go (fun _ kst => XS.iconst X155.here hx rfl (hb hby at_203) kst) ?_
    show Goes p e below s _ _ _ (T155.setTop (mkF m 204 #[.val (.int p0), .val (.int p1), .val (.int (6 : Int32)), .val (.int (63 : Int32)), .val (.int (Int32.ofNat kk)), .val (.ref b131), .val (.int (own_all (own_W vv 6) 6 0)), .val (.int ((Int32.ofNat kk) + (1 : Int32))), .val (.int (1 : Int32))] [(.int (1 : Int32))]))
    refine Goes.go (fun _ kst => XS.goto X155.here hx rfl (pc0 := 204) (pc' := 208) rfl (hb hby at_204) (by decide) (by decide) kst) ?_
    show Goes p e below s _ _ _ (T155.setTop (mkF m 208 #[.val (.int p0), .val (.int p1), .val (.int (6 : Int32)), .val (.int (63 : Int32)), .val (.int (Int32.ofNat kk)), .val (.ref b131), .val (.int (own_all (own_W vv 6) 6 0)), .val (.int ((Int32.ofNat kk) + (1 : Int32))), .val (.int (1 : Int32))] [(.int (1 : Int32))]))
    refine Goes.go (fun _ kst => XS.istore X155.here hx rfl (hb hby at_208) rfl (l' := #[.val (.int p0), .val (.int p1), .val (.int (6 : Int32)), .val (.int (63 : Int32)), .val (.int (Int32.ofNat kk)), .val (.ref b131), .val (.int (own_all (own_W vv 6) 6 0)), .val (.int ((Int32.ofNat kk) + (1 : Int32))), .val (.int (1 : Int32))]) rfl kst) ?_
    show Goes p e below s _ _ _ (T155.setTop (mkF m 210 #[.val (.int p0), .val (.int p1), .val (.int (6 : Int32)), .val (.int (63 : Int32)), .val (.int (Int32.ofNat kk)), .val (.ref b131), .val (.int (own_all (own_W vv 6) 6 0)), .val (.int ((Int32.ofNat kk) + (1 : Int32))), .val (.int (1 : Int32))] []))
    refine Goes.go (fun _ kst => XS.iload X155.here hx rfl (hb hby at_210) rfl  kst) ?_
    show Goes p e below s _ _ _ (T155.setTop (mkF m 212 #[.val (.int p0), .val (.int p1), .val (.int (6 : Int32)), .val (.int (63 : Int32)), .val (.int (Int32.ofNat kk)), .val (.ref b131), .val (.int (own_all (own_W vv 6) 6 0)), .val (.int ((Int32.ofNat kk) + (1 : Int32))), .val (.int (1 : Int32))] [(.int (1 : Int32))]))
    refine Goes.retN .boolean X155 hx hlk Bd.returns (by simp) (hb hby at_212) ?_ (by decide) (by decide)
    exact ⟨rfl, N155⟩
set_option maxRecDepth 65536 in
set_option maxHeartbeats 40000000 in
theorem comes_1 {Post : Tables → Env → Array Value → State → Outcome → State → Prop} (hpost : ∀ tb e args s v u, (limb_1_1.after args s (.returned v) u = true ∧ limb_1_2.after args s (.returned v) u = true ∧ True) → FrameEnd s (.returned v) u (Jvm.fieldLocs frame_1_writes args s ++ Jvm.arrayLocs frame_1_arrays args s ++ Jvm.staticLocs frame_1_statics s) 16 128 → Post tb e args s (.returned v) u) :
    ArmFor flags0 classFile x code maxLocals ret World_1 tables_1 room_1 Calls_1 rest_1 Pre_1 Post := by
  intro l hfl _ _ p e ha hc hk s m args below hf hA hF happ hP
  obtain ⟨hcalls, hrest, hpre⟩ := hP
  obtain ⟨-, -, -, hnamed, -, -, -, hat⟩ := (Spec.applies_iff hf).mp happ
  obtain ⟨hg, hn⟩ := and_e (Cond.before_iff.mp (show (Jvm.Cond.and given_1 narrow_1).before args s = true from hpre))
  obtain ⟨gc, gr0⟩ := and_e hg
  obtain ⟨w0, w1, rfl⟩ : ∃ w0 w1 : Value, args = #[w0, w1] := by
    have hs : args.size = 2 := by simpa [Cond.value, given_1] using gc
    obtain ⟨L⟩ := args
    match L, hs with
    | [w0, w1], _ => exact ⟨w0, w1, rfl⟩
  have hw := fun d (hd : d ∈ tables_1) => atoms_spec (ws := Jvm.Cond.code x code maxLocals ret :: tables_1) hat d (List.mem_cons_of_mem _ hd)
  have hfit : Fit s := fun {y c} hc i hi => by
    obtain ⟨ha, rfl⟩ := Array.getElem?_eq_some_iff.mp hc
    have q := List.all_eq_true.mp ((Array.all_eq_true_iff_forall_mem.mp hF) _ (Array.getElem_mem ha)) i (List.mem_range.mpr hi)
    simpa [Array.getElem?_eq_getElem hi] using q
  obtain ⟨ga0, gr1⟩ := and_e gr0
  obtain ⟨i0, ei0⟩ := is_v ga0
  obtain rfl : w0 = (.int i0) := Option.some.inj ei0
  obtain ⟨i1, ei1⟩ := is_v gr1
  obtain rfl : w1 = (.int i1) := Option.some.inj ei1
  obtain ⟨n, o, h1, h2, h3, _, L, rfl, ⟨rfl, N⟩, hq⟩ := rm0 l s _ hw tables_1 i0 i1 s.heap s.heap.size (Nat.le_refl _) p e ha hc hk s m _ below hf ((Spec.applies_iff_loose hf).mp happ).1 ⟨rfl, State.Warmed39.refl s, rfl⟩ trivial
  refine ⟨n, _, h1, h2, h3, hpost _ _ _ _ _ _ ⟨Cond.after_iff.mpr rfl, Cond.after_iff.mpr (eq_i res_at (Term.int_eval (1)) rfl), trivial⟩ ⟨hq.1, hq.2.1, (hq.2.2.sift fun y hy => Or.inr (N y hy)).mono (by decide) (by decide)⟩⟩
theorem main_1_1 : Claimed_1_1 := comes_1 fun _ _ _ _ _ _ h hF => ⟨h.1, hF⟩
theorem main_1_2 : Claimed_1_2 := comes_1 fun _ _ _ _ _ _ h hF => ⟨h.2.1, hF⟩
end Jvm.Pilot.@@N@@
namespace Jvm.Pilot.@@N@@
open Jvm Jvm.ClassFile Sem Op Lib Jvm.Free Jvm.Stand Jvm.Pilot.@@N@@.Jvm.D
/-! MADE BY PROGRAM (witnessworld.py) out of the Statement's table words and the real class files: 11 classes; the members and pool entries that the words name. The judged class is class 1, her method 1. -/
namespace start1
open Jvm.ClassFile
def u (s : String) : CpInfo := .utf8 (stringToUtf16 s)
/-- a pool by its gaps: so many unusable entries, then the entry; so many at the end -/
def gap : Nat → List CpInfo → List CpInfo
  | 0, r => r
  | n + 1, r => .unusable :: gap n r
def poolList (es : List (Nat × CpInfo)) (last : Nat) : List CpInfo := es.foldr (fun e r => gap e.1 (e.2 :: r)) (gap last [])
def pool (es : List (Nat × CpInfo)) (last : Nat) : Array CpInfo := ⟨poolList es last⟩
def fileOf (pool : Array CpInfo) (this : Nat) (attrs : Array Attribute := #[]) (ms : Array MethodInfo := #[]) (fl : Nat := 33) (sup : Nat := 0) (ifs : Array Nat := #[]) (fds : Array FieldInfo := #[]) : ClassFile where
  minorVersion := 0
  majorVersion := 65
  constantPool := pool
  accessFlags := fl
  thisClass := this
  superClass := sup
  interfaces := ifs
  fields := fds
  methods := ms
  attributes := attrs
def plain (name : String) (sup : Option ClassId) : Class where
  name := name
  kind := .ordinary
  loader := none
  accessFlags := 33
  super := sup
  interfaces := #[]
  cf := none
  fields := #[]
  methods := #[]
  instanceTypes := #[]
  staticTypes := #[]
  resolved := #[]
  callSites := []
  init := .initialized
  statics := none
  mirror := none

def pool0 : Array CpInfo := pool [(5, u "<init>"), (0, u "()V"), (1, .class_ 10), (1, u "java/lang/Object")] 113

def k0m0 : Method := { name := "<init>", desc := "()V", sig := { parameters := [], returnType := none }, accessFlags := 1, code := none }
/-- java/lang/Object -/
def k0 : Class := { plain "java/lang/Object" none with
  accessFlags := 33
  interfaces := #[]
  cf := some (fileOf pool0 8 #[] #[{ accessFlags := 1, nameIndex := 5, descriptorIndex := 6, attributes := #[] }] 33 0 #[] #[])
  fields := #[]
  methods := #[k0m0]
  instanceTypes := #[]
  staticTypes := #[]
  resolved := Array.replicate 124 none
  statics := none }

def pool1 : Array CpInfo := pool [(2, .class_ 4), (1, u "java/lang/Object"), (0, u "<init>"), (0, u "()V"), (0, .integer 2147483647), (0, .methodref 9 10), (0, .class_ 11), (0, .nameAndType 12 13), (0, u "com/example/surety/surety/DecompositionAdvancePinLaw"), (0, u "set"), (0, u "([ZII)V"), (0, .methodref 15 16), (0, .class_ 17), (0, .nameAndType 18 19), (0, u "com/example/surety/surety/Decomposition"), (0, u "advance"), (0, u "([Z)Z"), (0, .methodref 9 21), (0, .nameAndType 22 23), (0, u "same"), (0, u "([ZII)Z"), (2, u "law"), (0, u "(II)Z")] 5

def k1m0 : Method := { name := "<init>", desc := "()V", sig := { parameters := [], returnType := none }, accessFlags := 1, code := none }
def k1c1 : Code := { maxStack := 3, maxLocals := 9, code := code, exceptionTable := #[], attributes := #[] }
def k1m1 : Method := { name := "law", desc := "(II)Z", sig := { parameters := [.int, .int], returnType := some .boolean }, accessFlags := 9, code := some k1c1 }
def k1c2 : Code := { maxStack := 4, maxLocals := 3, code := method_3_code, exceptionTable := #[], attributes := #[] }
def k1m2 : Method := { name := "set", desc := "([ZII)V", sig := { parameters := [(.array .boolean), .int, .int], returnType := none }, accessFlags := 10, code := some k1c2 }
def k1c3 : Code := { maxStack := 3, maxLocals := 3, code := method_4_code, exceptionTable := #[], attributes := #[] }
def k1m3 : Method := { name := "same", desc := "([ZII)Z", sig := { parameters := [(.array .boolean), .int, .int], returnType := some .boolean }, accessFlags := 10, code := some k1c3 }
/-- com/example/surety/surety/DecompositionAdvancePinLaw -/
def k1 : Class := { plain "com/example/surety/surety/DecompositionAdvancePinLaw" (some 0) with
  accessFlags := 49
  interfaces := #[]
  cf := some (fileOf pool1 9 #[] #[{ accessFlags := 1, nameIndex := 5, descriptorIndex := 6, attributes := #[] }, { accessFlags := 9, nameIndex := 26, descriptorIndex := 27, attributes := #[] }, { accessFlags := 10, nameIndex := 12, descriptorIndex := 13, attributes := #[] }, { accessFlags := 10, nameIndex := 22, descriptorIndex := 23, attributes := #[] }] 49 2 #[] #[])
  fields := #[]
  methods := #[k1m0, k1m1, k1m2, k1m3]
  instanceTypes := #[]
  staticTypes := #[]
  resolved := Array.replicate 33 none
  statics := none }

def pool2 : Array CpInfo := pool [(2, .class_ 4), (1, u "java/lang/Object"), (3, .class_ 10), (1, u "com/example/surety/surety/Decomposition"), (0, u "whole"), (0, u "Lcom/example/surety/surety/Decomposition$Whole;"), (2, u "most"), (0, u "J"), (2, u "timeLimit"), (0, u "Ljava/util/OptionalLong;"), (70, .class_ 92), (0, u "com/example/surety/surety/Decomposition$Whole"), (35, u "advance"), (0, u "([Z)Z"), (76, u "best"), (0, u "Lcom/example/surety/surety/Decomposition$Split;"), (1, .class_ 211), (1, u "com/example/surety/surety/Decomposition$Split"), (10, u "agreeing"), (69, .class_ 294), (1, u "com/example/surety/surety/Decomposition$Stop"), (23, u "WHOLE_TIMES"), (0, u "I"), (2, u "LEAST_BOUND")] 60

def k2c0 : Code := { maxStack := 3, maxLocals := 6, code := prog_56_method_15_code, exceptionTable := #[], attributes := #[] }
def k2m0 : Method := { name := "advance", desc := "([Z)Z", sig := { parameters := [(.array .boolean)], returnType := some .boolean }, accessFlags := 8, code := some k2c0 }
/-- com/example/surety/surety/Decomposition -/
def k2 : Class := { plain "com/example/surety/surety/Decomposition" (some 0) with
  accessFlags := 48
  interfaces := #[]
  cf := some (fileOf pool2 8 #[.nestMembers #[91, 209, 292]] #[{ accessFlags := 8, nameIndex := 128, descriptorIndex := 129, attributes := #[] }] 48 2 #[] #[{ accessFlags := 26, nameIndex := 318, descriptorIndex := 319, attributes := #[] }, { accessFlags := 26, nameIndex := 322, descriptorIndex := 319, attributes := #[] }, { accessFlags := 18, nameIndex := 11, descriptorIndex := 12, attributes := #[] }, { accessFlags := 18, nameIndex := 15, descriptorIndex := 16, attributes := #[] }, { accessFlags := 18, nameIndex := 19, descriptorIndex := 20, attributes := #[] }, { accessFlags := 2, nameIndex := 222, descriptorIndex := 16, attributes := #[] }, { accessFlags := 2, nameIndex := 206, descriptorIndex := 207, attributes := #[] }])
  fields := #[{ name := "WHOLE_TIMES", type := .int, accessFlags := 26, slot := 0, constantValue := 0 }, { name := "LEAST_BOUND", type := .int, accessFlags := 26, slot := 1, constantValue := 0 }, { name := "whole", type := (.object "com/example/surety/surety/Decomposition$Whole"), accessFlags := 18, slot := 0, constantValue := 0 }, { name := "most", type := .long, accessFlags := 18, slot := 1, constantValue := 0 }, { name := "timeLimit", type := (.object "java/util/OptionalLong"), accessFlags := 18, slot := 2, constantValue := 0 }, { name := "agreeing", type := .long, accessFlags := 2, slot := 3, constantValue := 0 }, { name := "best", type := (.object "com/example/surety/surety/Decomposition$Split"), accessFlags := 2, slot := 4, constantValue := 0 }]
  methods := #[k2m0]
  instanceTypes := #[(.object "com/example/surety/surety/Decomposition$Whole"), .long, (.object "java/util/OptionalLong"), .long, (.object "com/example/surety/surety/Decomposition$Split")]
  staticTypes := #[.int, .int]
  resolved := Array.replicate 383 none
  statics := none }

def pool3 : Array CpInfo := pool [(1, u "java/lang/Cloneable"), (0, .class_ 1), (0, u "java/lang/Object"), (0, .class_ 3)] 3

/-- java/lang/Cloneable -/
def k3 : Class := { plain "java/lang/Cloneable" (some 0) with
  accessFlags := 1537
  interfaces := #[]
  cf := some (fileOf pool3 2 #[] #[] 1537 4 #[] #[])
  fields := #[]
  methods := #[]
  instanceTypes := #[]
  staticTypes := #[]
  resolved := Array.replicate 8 none
  statics := none }

def pool4 : Array CpInfo := pool [(1, u "java/io/Serializable"), (0, .class_ 1), (0, u "java/lang/Object"), (0, .class_ 3)] 3

/-- java/io/Serializable -/
def k4 : Class := { plain "java/io/Serializable" (some 0) with
  accessFlags := 1537
  interfaces := #[]
  cf := some (fileOf pool4 2 #[] #[] 1537 4 #[] #[])
  fields := #[]
  methods := #[]
  instanceTypes := #[]
  staticTypes := #[]
  resolved := Array.replicate 8 none
  statics := none }

/-- the primitive boolean -/
def k5 : Class := { plain "boolean" none with kind := .primitive 'Z', accessFlags := 0x411 }
/-- [Z -/
def k6 : Class := { plain "[Z" (some 0) with kind := .array 5 .boolean, interfaces := #[3, 4], accessFlags := 1041 }

/-- the primitive byte -/
def k7 : Class := { plain "byte" none with kind := .primitive 'B', accessFlags := 0x411 }
/-- [B -/
def k8 : Class := { plain "[B" (some 0) with kind := .array 7 .byte, interfaces := #[3, 4], accessFlags := 1041 }

/-- the primitive int -/
def k9 : Class := { plain "int" none with kind := .primitive 'I', accessFlags := 0x411 }
/-- [I -/
def k10 : Class := { plain "[I" (some 0) with kind := .array 9 .int, interfaces := #[3, 4], accessFlags := 1041 }

def heap : Heap := #[]
def classes : Array Class := #[k0, k1, k2, k3, k4, k5, k6, k7, k8, k9, k10]
def interned : List (Array UInt16 × Addr) := []
def slotsUsed : Nat := 0
def theMethod : MethodId := ⟨1, 1⟩
def args0 : Array Value := #[.int 5, .int 5]
def aboutOver (below : List Frame) : State where
  vm := { classes := classes, interned := interned.toArray }
  heap := heap
  slotsUsed := slotsUsed
  threads := #[{ frames := .invoking theMethod args0 :: below }]
def below0 : List Frame := [.native { method := ⟨0, 0⟩, args := #[] }]
def about1 : State := aboutOver below0
def p0 : Program := .bare "" "" ""
def e0 : Env := launch0.env 0 0 0
theorem w_frames : about1.frames = Frame.invoking theMethod args0 :: below0 := rfl
set_option maxRecDepth 65536 in
theorem w_args : argsFit about1.vm theMethod args0 = true := by decide +kernel
set_option maxRecDepth 65536 in
theorem w_heap : heapFits about1 = true := by decide +kernel
set_option maxRecDepth 65536 in
theorem w_runnable : about1.curStatus? = some .runnable := by decide +kernel
set_option maxRecDepth 65536 in
theorem w_alone : about1.alone = true := by decide +kernel
set_option maxRecDepth 65536 in
theorem w_named : about1.methodNamed? x = some theMethod := by decide +kernel
set_option maxRecDepth 65536 in
theorem w_hears : about1.hears theMethod below0 = true := by decide +kernel
set_option maxRecDepth 65536 in
theorem w_ripe : about1.ripe theMethod args0 below0 = true := by decide +kernel
theorem w_running : about1.status = .running := rfl
set_option maxRecDepth 65536 in
theorem w_room : about1.hasRoom e0.platform room_1 = true :=
  launch0.hasRoom_least _ room_1 (by decide +kernel) (by decide +kernel) (by decide +kernel) (by decide +kernel) (by decide +kernel) (by decide +kernel)
theorem allAtoms_all (ts : List Jvm.Cond) (a : Array Jvm.Value) (st : Jvm.State) : (allAtoms ts).before a st = ts.all (fun c => c.before a st) := by
  induction ts with
  | nil => rfl
  | cons c t ih =>
    show (Jvm.Cond.and c (allAtoms t)).before a st = _
    rw [Jvm.Cond.before_and, ih, List.all_cons]
def words1 : List Jvm.Cond := Jvm.Cond.code x code maxLocals ret :: tables_1
/-- a 'code' word, met by the world's own term for the bytes: nothing is compared byte by byte -/
theorem code_word {y : MethodName} {bytes : ByteArray} {mx : Nat} {rt : Option FieldType} {a : Array Value} {s : State} {m : MethodId} {meth : Method} {c : Code} (h1 : s.methodNamed? y = some m) (h2 : s.vm.method? m = some meth) (h3 : meth.code = some c) (h4 : c.code = bytes)
    (h5 : (c.maxLocals == mx && c.exceptionTable.isEmpty && decide (c.maxStack ≤ mostOperands) && decide (meth.sig.returnType = rt) && !meth.locks && decide (parseMethodDescriptor y.desc = some meth.sig)) = true) : (Jvm.Cond.code y bytes mx rt).before a s = true := by
  simp only [Bool.and_eq_true, beq_iff_eq, Bool.not_eq_true', decide_eq_true_eq] at h5
  obtain ⟨⟨⟨⟨⟨g1, g2⟩, g3⟩, g4⟩, g5⟩, g6⟩ := h5
  simp [Cond.before, Cond.holds, Cond.value, h1, h2, h3, h4, g1, g2, g3, g4, g5, g6]
def isCode : Jvm.Cond → Bool
  | .code _ _ _ _ => true
  | _ => false
theorem all_split {L : List Jvm.Cond} {P : Jvm.Cond → Bool} (h1 : L.all (fun c => isCode c || P c) = true) (h2 : ∀ c ∈ L.filter isCode, P c = true) : L.all P = true := by
  refine List.all_eq_true.mpr fun c hc => ?_
  have h := List.all_eq_true.mp h1 c hc
  rcases Bool.eq_false_or_eq_true (isCode c) with hi | hi
  · exact h2 c (List.mem_filter.mpr ⟨hc, hi⟩)
  · simpa [hi] using h
set_option maxRecDepth 65536 in
theorem w_c0 : (Jvm.Cond.code x code maxLocals ret).before args0 about1 = true := code_word (m := ⟨1, 1⟩) (meth := k1m1) (c := k1c1) (by decide +kernel) rfl rfl rfl (by decide +kernel)
set_option maxRecDepth 65536 in
theorem w_c1 : (Jvm.Cond.code ({ cls := "com/example/surety/surety/DecompositionAdvancePinLaw", name := "set", desc := "([ZII)V" } : Jvm.MethodName) method_3_code (3 : Nat) (Option.none : Option Jvm.ClassFile.FieldType)).before args0 about1 = true := code_word (m := ⟨1, 2⟩) (meth := k1m2) (c := k1c2) (by decide +kernel) rfl rfl rfl (by decide +kernel)
set_option maxRecDepth 65536 in
theorem w_c2 : (Jvm.Cond.code ({ cls := "com/example/surety/surety/Decomposition", name := "advance", desc := "([Z)Z" } : Jvm.MethodName) prog_56_method_15_code (6 : Nat) (Option.some Jvm.ClassFile.FieldType.boolean)).before args0 about1 = true := code_word (m := ⟨2, 0⟩) (meth := k2m0) (c := k2c0) (by decide +kernel) rfl rfl rfl (by decide +kernel)
set_option maxRecDepth 65536 in
theorem w_c3 : (Jvm.Cond.code ({ cls := "com/example/surety/surety/DecompositionAdvancePinLaw", name := "same", desc := "([ZII)Z" } : Jvm.MethodName) method_4_code (3 : Nat) (Option.some Jvm.ClassFile.FieldType.boolean)).before args0 about1 = true := code_word (m := ⟨1, 3⟩) (meth := k1m3) (c := k1c3) (by decide +kernel) rfl rfl rfl (by decide +kernel)
def codes1 : List Jvm.Cond := [Jvm.Cond.code x code maxLocals ret, Jvm.Cond.code ({ cls := "com/example/surety/surety/DecompositionAdvancePinLaw", name := "set", desc := "([ZII)V" } : Jvm.MethodName) method_3_code (3 : Nat) (Option.none : Option Jvm.ClassFile.FieldType), Jvm.Cond.code ({ cls := "com/example/surety/surety/Decomposition", name := "advance", desc := "([Z)Z" } : Jvm.MethodName) prog_56_method_15_code (6 : Nat) (Option.some Jvm.ClassFile.FieldType.boolean), Jvm.Cond.code ({ cls := "com/example/surety/surety/DecompositionAdvancePinLaw", name := "same", desc := "([ZII)Z" } : Jvm.MethodName) method_4_code (3 : Nat) (Option.some Jvm.ClassFile.FieldType.boolean)]
set_option maxRecDepth 65536 in
theorem codes_eq : words1.filter isCode = codes1 := rfl
theorem w_codes : ∀ c ∈ words1.filter isCode, c.before args0 about1 = true := by
  rw [codes_eq]
  intro c hc
  simp only [codes1, List.mem_cons, List.not_mem_nil, or_false] at hc
  rcases hc with rfl | rfl | rfl | rfl
  · exact w_c0
  · exact w_c1
  · exact w_c2
  · exact w_c3
set_option maxRecDepth 65536 in
theorem w_t1 : words1.all (fun c => isCode c || c.before args0 about1) = true := by decide +kernel
theorem w_tables : (allAtoms (Jvm.Cond.code x code maxLocals ret :: tables_1)).before args0 about1 = true := by
  rw [allAtoms_all]
  show words1.all (fun c => c.before args0 about1) = true
  refine all_split ?_ w_codes
  rw [w_t1]
set_option maxRecDepth 65536 in
theorem w_case : (Jvm.Cond.and given_1 narrow_1).before args0 about1 = true := by decide +kernel
theorem w_applies : (headSpec (Jvm.Cond.code x code maxLocals ret :: tables_1) room_1).applies x e0.platform about1 = true :=
  (Spec.applies_iff w_frames).mpr ⟨w_running, w_runnable, w_alone, w_named, w_hears, w_ripe, w_room, w_tables⟩
theorem atStart : AtStart classFile x code maxLocals ret World_1 tables_1 room_1 Calls_1 rest_1 Pre_1 launch0 p0 e0 about1 theMethod args0 below0 :=
  ⟨lists_1, trivial, launch0.admits_env _ _ _, launch0.least_env, fairChoices_fair.cas, fairChoices_fair.clock, w_frames, w_args, w_heap, w_applies, trivial, trivial, w_case⟩
end start1
theorem witness_1 : WitnessClaimed_1 := ⟨start1.p0, start1.e0, start1.about1, start1.theMethod, start1.args0, start1.below0, start1.atStart⟩
end Jvm.Pilot.@@N@@
