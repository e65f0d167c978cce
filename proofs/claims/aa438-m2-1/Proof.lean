import JvmDerived
import JvmDerived.Pilot.@@N@@Statement
import JvmDerived.Pilot.@@N@@Code
set_option linter.unusedVariables false
set_option linter.unusedSimpArgs false
@@BLOCK:NumsL.lean.txt@@
namespace Jvm.RoadKit
open Sem ClassFile Op Lib Jvm.Stand Jvm.Free Jvm.LawKit
section Goes
variable {p : Program} {l : Launch} {e : Env} {R : Room} {s : State} {m : MethodId} {args : Array Value} {below : List Frame} {meth : Method} {c : Code} {T : State} {locs : List Loc} {cells slots : Nat}
/-- from here the run comes to its return, and Q holds there -/
def Goes (p : Program) (e : Env) (below : List Frame) (s : State) (Q : Option Value → Heap → List Loc → Prop) (kc ks : Nat) (S : State) : Prop :=
  ∃ s₂ o, Steps p.tables e below S s₂ ∧ s₂.status = .running ∧ Ended s₂ below o ∧ ∃ v L, o = .returned v ∧ Q v s₂.heap L ∧ FrameEnd s o s₂ L kc ks
variable {Q Q' : Option Value → Heap → List Loc → Prop} {kc ks : Nat} {A B : State}
theorem Goes.go (h : ∀ t, Steps p.tables e below A t → Steps p.tables e below B t) (g : Goes p e below s Q kc ks A) : Goes p e below s Q kc ks B := by
  obtain ⟨s2, o, h1, h2⟩ := g
  exact ⟨s2, o, h _ h1, h2⟩
theorem Goes.tr (h : Steps p.tables e below B A) (g : Goes p e below s Q kc ks A) : Goes p e below s Q kc ks B := g.go fun _ k => h.trans k
theorem Goes.weaken (h : ∀ v hp L, Q' v hp L → Q v hp L) (g : Goes p e below s Q' kc ks A) : Goes p e below s Q kc ks A := by
  obtain ⟨s2, o, h1, h2, h3, v, L, h4, h5, h6⟩ := g
  exact ⟨s2, o, h1, h2, h3, v, L, h4, h _ _ _ h5, h6⟩
theorem Goes.castQ (h : Q = Q') (g : Goes p e below s Q' kc ks A) : Goes p e below s Q kc ks A := h ▸ g
theorem Goes.out (X : Stand p l e R s m args below meth c T locs cells slots) (hlk : meth.locks = false) {v : Option Value} (hv : meth.sig.returnType = none → v = none) {F : State}
    (hstep : ∀ fs, (∀ (f : JFrame) (acts : List Action), f.method = m → f.locked = none → f.entered = [] → (doReturn e (T.setTop f) acts v).1 = T.setFrames fs) → Steps p.tables e below F (T.setFrames fs))
    (hq : Q v T.heap locs) (hc : cells ≤ kc) (hs : slots ≤ ks) : Goes p e below s Q kc ks F := by
  obtain ⟨fs, hr, hrun, hended, hW, hsame⟩ := X.leave (v := v) hv hlk
  exact ⟨_, _, hstep fs hr, hrun, hended, _, _, rfl, hq, ⟨_, rfl⟩, hW, hsame.mono hc hs⟩
theorem retI (X : Stand p l e R s m args below meth c T locs cells slots) (hx : p.tables.exec = Jvm.exec) {pc : Nat} {Ls : Array Slot} {z : Int32} {rest : List Value} (hret : meth.sig.returnType = some .int) (hd : decode c.code pc = .ok (.ireturn, 1)) {fs : List Frame}
    (hl : ∀ (f : JFrame) (acts : List Action), f.method = m → f.locked = none → f.entered = [] → (doReturn e (T.setTop f) acts (some (.int z))).1 = T.setFrames fs) : Steps p.tables e below (T.setTop (mkF m pc Ls (.int z :: rest))) (T.setFrames fs) := by
  have hm' : T.vm.method? m = some meth := X.method'
  have hn : narrow .int (.int z) = .int z := rfl
  show Steps p.tables e below (T.setTop { method := m, pc := pc, locals := Ls, stack := _ :: rest, locked := none }) _
  jvm_step X.here [X.here.top, hx, hd, hm', hret, hn]
  first | (intro acts; rw [hl _ acts rfl rfl rfl]) | rw [hl _ _ rfl rfl rfl]
  exact Steps.refl _
theorem Goes.retI (X : Stand p l e R s m args below meth c T locs cells slots) (hx : p.tables.exec = Jvm.exec) (hlk : meth.locks = false) (hret : meth.sig.returnType = some .int) {pc : Nat} {Ls : Array Slot} {z : Int32} {rest : List Value} (hd : decode c.code pc = .ok (.ireturn, 1))
    (hq : Q (some (.int z)) T.heap locs) (hc : cells ≤ kc) (hs : slots ≤ ks) : Goes p e below s Q kc ks (T.setTop (mkF m pc Ls (.int z :: rest))) :=
  Goes.out X hlk (fun h => by rw [hret] at h; cases h) (fun fs hr => Jvm.RoadKit.retI X hx hret hd hr) hq hc hs
theorem Goes.retN (t : FieldType) (X : Stand p l e R s m args below meth c T locs cells slots) (hx : p.tables.exec = Jvm.exec) (hlk : meth.locks = false) (hret : meth.sig.returnType = some t) (ht : t = .boolean ∨ t = .byte ∨ t = .char ∨ t = .short) {pc : Nat} {Ls : Array Slot} {z : Int32} {rest : List Value} (hd : decode c.code pc = .ok (.ireturn, 1))
    (hq : Q (some (.int (nar t z))) T.heap locs) (hc : cells ≤ kc) (hs : slots ≤ ks) : Goes p e below s Q kc ks (T.setTop (mkF m pc Ls (.int z :: rest))) :=
  Goes.out X hlk (fun h => by rw [hret] at h; cases h) (fun fs hr => Jvm.RoadKit.retN X hx hret ht hd hr) hq hc hs
theorem Goes.ret0 (X : Stand p l e R s m args below meth c T locs cells slots) (hx : p.tables.exec = Jvm.exec) (hlk : meth.locks = false) (hret : meth.sig.returnType = none) {pc : Nat} {Ls : Array Slot} (hd : decode c.code pc = .ok (.return_, 1))
    (hq : Q none T.heap locs) (hc : cells ≤ kc) (hs : slots ≤ ks) : Goes p e below s Q kc ks (T.setTop (mkF m pc Ls [])) :=
  Goes.out X hlk (fun _ => rfl) (fun fs hr => X.returnOut hx hret hd hr) hq hc hs
theorem Goes.retJ (X : Stand p l e R s m args below meth c T locs cells slots) (hx : p.tables.exec = Jvm.exec) (hlk : meth.locks = false) (hret : meth.sig.returnType = some .long) {pc : Nat} {Ls : Array Slot} {z : Int64} (hd : decode c.code pc = .ok (.lreturn, 1))
    (hq : Q (some (.long z)) T.heap locs) (hc : cells ≤ kc) (hs : slots ≤ ks) : Goes p e below s Q kc ks (T.setTop (mkF m pc Ls [.long z])) :=
  Goes.out X hlk (fun h => by rw [hret] at h; cases h) (fun fs hr => X.lreturnOut hx hret hd hr) hq hc hs
theorem Goes.retA (X : Stand p l e R s m args below meth c T locs cells slots) (hx : p.tables.exec = Jvm.exec) (hlk : meth.locks = false) {w : Value} (hw : w.isRef = true) {t : FieldType} (hret : meth.sig.returnType = some t) (ht : t.isReference = true) {pc : Nat} {Ls : Array Slot} (hd : decode c.code pc = .ok (.areturn, 1))
    (hq : Q (some w) T.heap locs) (hc : cells ≤ kc) (hs : slots ≤ ks) : Goes p e below s Q kc ks (T.setTop (mkF m pc Ls [w])) :=
  Goes.out X hlk (fun h => by rw [hret] at h; cases h) (fun fs hr => X.areturnOut hx hw hret ht hd hr) hq hc hs
/-- the answer of a method that writes nothing -/
def Qp (z : Value) (h0 : Heap) (n0 : Nat) (v : Option Value) (h : Heap) (L : List Loc) : Prop := v = some z ∧ Fr n0 L ∧ h = h0
/-- the answer of a method that writes nothing and returns nothing -/
def Qn (h0 : Heap) (n0 : Nat) (v : Option Value) (h : Heap) (L : List Loc) : Prop := v = none ∧ Fr n0 L ∧ h = h0
theorem Goes.qi {z z' : Int32} {h0 : Heap} {n0 : Nat} (h : z = z') (g : Goes p e below s (Qp (.int z') h0 n0) kc ks A) : Goes p e below s (Qp (.int z) h0 n0) kc ks A := h ▸ g
theorem Goes.qj {z z' : Int64} {h0 : Heap} {n0 : Nat} (h : z = z') (g : Goes p e below s (Qp (.long z') h0 n0) kc ks A) : Goes p e below s (Qp (.long z) h0 n0) kc ks A := h ▸ g
end Goes
end Jvm.RoadKit
namespace Jvm.RoadKit
open Sem ClassFile Op Lib Jvm.Stand Jvm.Free Jvm.LawKit
/-- an array of ints (bytes, chars, booleans): its length and what each place holds -/
def IA (Z : State) (h : Heap) (a : Addr) (ty : FieldType) (n : Nat) (f : Nat → Int32) : Prop :=
  ∃ c : Cell, Arr Z h a c ty ∧ c.slots.size = n ∧ n < 2 ^ 31 ∧ ∀ i, i < n → c.slots[i]? = some (.int (f i)) ∧ fits ty (.int (f i)) = true
def own_upd (f : Nat → Int32) (i : Nat) (v : Int32) : Nat → Int32 := fun k => if k = i then v else f k
section IAs
variable {p : Program} {l : Launch} {e : Env} {R : Room} {s : State} {m : MethodId} {args : Array Value} {below : List Frame} {meth : Method} {c : Code} {T : State} {locs : List Loc} {cells slots : Nat} {Z : State} {a0 : Array Value} {h h' : Heap} {a b : Addr} {ty : FieldType} {n : Nat} {f f' : Nat → Int32} {sl : Nat} {v : Value} {ws : List Addr}
theorem IA.lt (F : IA Z h a ty n f) : a < h.size := by obtain ⟨c, A, -⟩ := F; exact A.lt
theorem IA.ext (F : IA Z h a ty n f) (E : Ext h h') : IA Z h' a ty n f := by obtain ⟨c, A, r⟩ := F; exact ⟨c, A.ext E, r⟩
theorem IA.other (F : IA Z h b ty n f) (W : Wr h h' a sl v) (q : b ≠ a) : IA Z h' b ty n f := by obtain ⟨c, A, r⟩ := F; exact ⟨c, A.other W q, r⟩
theorem IA.keep (F : IA Z h a ty n f) (K : Keep h h' ws) (q : a ∉ ws) : IA Z h' a ty n f := by obtain ⟨c, A, r⟩ := F; exact ⟨c, ⟨K.2.1 a c A.1 q, A.2⟩, r⟩
theorem IA.as (F : IA Z h a ty n f) (q : ∀ i, i < n → f i = f' i) : IA Z h a ty n f' := by
  obtain ⟨c, A, S, M, H⟩ := F
  exact ⟨c, A, S, M, fun i hi => by rw [← q i hi]; exact H i hi⟩
theorem IA.bound (F : IA Z h a ty n f) : n < 2 ^ 31 := by obtain ⟨c, A, S, M, H⟩ := F; exact M
theorem own_nat {i : Nat} (hi : i < 2 ^ 31) : (Int32.ofNat i).toInt = i := Int32.toInt_ofNat_of_lt (by omega)
theorem own_cl {i : Nat} (hi : i < 2 ^ 31) : (Int32.ofNat i).toNatClampNeg = i := by
  have := own_nat hi
  show (Int32.ofNat i).toInt.toNat = i
  omega
theorem own_in {i : Nat} (hi : i < n) (hn : n < 2 ^ 31) : ¬ (Int32.ofNat i < 0 ∨ n ≤ (Int32.ofNat i).toNatClampNeg) := by
  rw [own_cl (by omega)]
  rintro (q | q)
  · have := Int32.lt_iff_toInt_lt.mp q
    rw [own_nat (by omega)] at this
    have z : (0 : Int32).toInt = 0 := rfl
    omega
  · omega
theorem IA.set {c : Cell} (A : Arr Z h a c ty) (S : c.slots.size = n) (M : n < 2 ^ 31) (H : ∀ i, i < n → c.slots[i]? = some (.int (f i)) ∧ fits ty (.int (f i)) = true) {i : Nat} (hi : i < n) {x : Int32} (hx : fits ty (.int x) = true) (W : Wr h h' a i (.int x)) : IA Z h' a ty n (own_upd f i x) := by
  refine ⟨c.setSlot i (.int x), A.same W, by rw [sz_set]; exact S, M, fun k hk => ?_⟩
  by_cases q : k = i
  · subst q
    simp only [own_upd, if_pos]
    exact ⟨by simp [Cell.setSlot, S, hk], hx⟩
  · simp only [own_upd, if_neg q]
    refine ⟨?_, (H k hk).2⟩
    rw [← (H k hk).1]
    simp only [Cell.setSlot]
    exact Array.getElem?_setIfInBounds_ne (Ne.symm q)
theorem own_newA (X : Stand p l e R s m args below meth c T locs cells slots) (hx : p.tables.exec = Jvm.exec) (hZ : Z.Warmed39 s.vm) {aty : ArrayType} (w : (Cond.arrayClass (newarray.typeOf aty)).before a0 Z = true) (eT : T.heap = h) {g : JFrame} (hg : g.method = m) (hd : decode c.code g.pc = .ok (.newarray aty, 2)) {z : Int32} {rest : List Value} (hs : g.stack = .int z :: rest)
    {n : Nat} (hz : z = Int32.ofNat n) {cap : Nat} (hcap : n ≤ cap) (hb : cap * 8 ≤ 536870912) (hc : cells + 1 ≤ R.cells) (hl : slots + cap ≤ R.slots) (hdv : defaultValue (newarray.typeOf aty) = .int 0) (hft : fits (newarray.typeOf aty) (.int 0) = true) {ad : String} (had : "[" ++ (newarray.typeOf aty).toString = ad) :
    ∃ T' h', Stand p l e R s m args below meth c T' locs (cells + 1) (slots + cap) ∧ T'.heap = h' ∧ Ext h h' ∧ IA Z h' h.size (newarray.typeOf aty) n (fun _ => 0) ∧ Exa Z h' h.size ad ∧
      ∀ target, Steps p.tables e below (T'.setTop { g with pc := g.pc + 2, stack := .ref h.size :: rest }) target → Steps p.tables e below (T.setTop g) target := by
  have hn31 : n < 2 ^ 31 := by omega
  have hcl : z.toNatClampNeg = n := by rw [hz]; exact own_cl hn31
  have hneg : ¬ z < 0 := by
    rw [hz]; intro q
    have := Int32.lt_iff_toInt_lt.mp q
    rw [own_nat hn31] at this
    have z : (0 : Int32).toInt = 0 := rfl
    omega
  obtain ⟨T', h', cA, X', e', E, A, EX, st⟩ := newPE X hx hZ w eT hg hd hs hneg (cap := cap) (by rw [hcl]; exact hcap) hb hc hl had
  refine ⟨T', h', X', e', E, ⟨_, A, by rw [sz_new]; exact hcl, hn31, fun i hi => ⟨?_, hft⟩⟩, EX, st⟩
  have := get_new (cA := cA) (ty := newarray.typeOf aty) (n := z) (k := Int32.ofNat i) (by rw [hcl]; exact own_in hi hn31)
  rw [own_cl (by omega), hdv] at this
  exact this
theorem own_stI (X : Stand p l e R s m args below meth c T locs cells slots) (hx : p.tables.exec = Jvm.exec) (hZ : Z.Warmed39 s.vm) (eT : T.heap = h) (A : IA Z h a .int n f) {j x : Int32} {i : Nat} (hj : j = Int32.ofNat i) (hi : i < n) {g : JFrame} (hg : g.method = m) {rest : List Value} (hs : g.stack = .int x :: .int j :: .ref a :: rest) (hd : decode c.code g.pc = .ok (.iastore, 1)) :
    ∃ T' h', Stand p l e R s m args below meth c T' (locs ++ [⟨a, i⟩]) cells slots ∧ T'.heap = h' ∧ Wr h h' a i (.int x) ∧ IA Z h' a .int n (own_upd f i x) ∧ ∀ target, Steps p.tables e below (T'.setTop { g with pc := g.pc + 1, stack := rest }) target → Steps p.tables e below (T.setTop g) target := by
  obtain ⟨cl, A, S, M, H⟩ := A
  subst hj
  obtain ⟨T', h', X', e', W, st⟩ := stI X hx hZ eT A (j := Int32.ofNat i) (by rw [S]; exact own_in hi M) hg hs hd
  rw [own_cl (by omega)] at X' W
  exact ⟨T', h', X', e', W, IA.set A S M H hi rfl W, st⟩
theorem own_stB (X : Stand p l e R s m args below meth c T locs cells slots) (hx : p.tables.exec = Jvm.exec) (hZ : Z.Warmed39 s.vm) (eT : T.heap = h) (A : IA Z h a .byte n f) {j x : Int32} {i : Nat} (hj : j = Int32.ofNat i) (hi : i < n) {g : JFrame} (hg : g.method = m) {rest : List Value} (hs : g.stack = .int x :: .int j :: .ref a :: rest) (hd : decode c.code g.pc = .ok (.bastore, 1)) :
    ∃ T' h', Stand p l e R s m args below meth c T' (locs ++ [⟨a, i⟩]) cells slots ∧ T'.heap = h' ∧ Wr h h' a i (.int (nar .byte x)) ∧ IA Z h' a .byte n (own_upd f i (nar .byte x)) ∧ ∀ target, Steps p.tables e below (T'.setTop { g with pc := g.pc + 1, stack := rest }) target → Steps p.tables e below (T.setTop g) target := by
  obtain ⟨cl, A, S, M, H⟩ := A
  subst hj
  obtain ⟨T', h', X', e', W, st⟩ := stB X hx hZ eT A (j := Int32.ofNat i) (by rw [S]; exact own_in hi M) hg hs hd
  rw [own_cl (by omega)] at X' W
  exact ⟨T', h', X', e', W, IA.set A S M H hi (fits_nar_byte _) W, st⟩
theorem own_stC (X : Stand p l e R s m args below meth c T locs cells slots) (hx : p.tables.exec = Jvm.exec) (hZ : Z.Warmed39 s.vm) (eT : T.heap = h) (A : IA Z h a .char n f) {j x : Int32} {i : Nat} (hj : j = Int32.ofNat i) (hi : i < n) {g : JFrame} (hg : g.method = m) {rest : List Value} (hs : g.stack = .int x :: .int j :: .ref a :: rest) (hd : decode c.code g.pc = .ok (.castore, 1)) :
    ∃ T' h', Stand p l e R s m args below meth c T' (locs ++ [⟨a, i⟩]) cells slots ∧ T'.heap = h' ∧ Wr h h' a i (.int (nar .char x)) ∧ IA Z h' a .char n (own_upd f i (nar .char x)) ∧ ∀ target, Steps p.tables e below (T'.setTop { g with pc := g.pc + 1, stack := rest }) target → Steps p.tables e below (T.setTop g) target := by
  obtain ⟨cl, A, S, M, H⟩ := A
  subst hj
  obtain ⟨T', h', X', e', W, st⟩ := stC X hx hZ eT A (j := Int32.ofNat i) (by rw [S]; exact own_in hi M) hg hs hd
  rw [own_cl (by omega)] at X' W
  exact ⟨T', h', X', e', W, IA.set A S M H hi (fits_nar_char _) W, st⟩
theorem own_stZ (X : Stand p l e R s m args below meth c T locs cells slots) (hx : p.tables.exec = Jvm.exec) (hZ : Z.Warmed39 s.vm) (eT : T.heap = h) (A : IA Z h a .boolean n f) {j x : Int32} {i : Nat} (hj : j = Int32.ofNat i) (hi : i < n) {g : JFrame} (hg : g.method = m) {rest : List Value} (hs : g.stack = .int x :: .int j :: .ref a :: rest) (hd : decode c.code g.pc = .ok (.bastore, 1)) :
    ∃ T' h', Stand p l e R s m args below meth c T' (locs ++ [⟨a, i⟩]) cells slots ∧ T'.heap = h' ∧ Wr h h' a i (.int (nar .boolean x)) ∧ IA Z h' a .boolean n (own_upd f i (nar .boolean x)) ∧ ∀ target, Steps p.tables e below (T'.setTop { g with pc := g.pc + 1, stack := rest }) target → Steps p.tables e below (T.setTop g) target := by
  obtain ⟨cl, A, S, M, H⟩ := A
  subst hj
  obtain ⟨T', h', X', e', W, st⟩ := stZ X hx hZ eT A (j := Int32.ofNat i) (by rw [S]; exact own_in hi M) hg hs hd
  rw [own_cl (by omega)] at X' W
  exact ⟨T', h', X', e', W, IA.set A S M H hi (fits_nar_bool _) W, st⟩
theorem own_ldI (X : Stand p l e R s m args below meth c T locs cells slots) (hx : p.tables.exec = Jvm.exec) (hZ : Z.Warmed39 s.vm) (eT : T.heap = h) (A : IA Z h a .int n f) {j : Int32} {i : Nat} (hj : j = Int32.ofNat i) (hi : i < n) {g : JFrame} (hg : g.method = m) {rest : List Value} (hs : g.stack = .int j :: .ref a :: rest) (hd : decode c.code g.pc = .ok (.iaload, 1)) :
    ∀ target, Steps p.tables e below (T.setTop { g with pc := g.pc + 1, stack := .int (f i) :: rest }) target → Steps p.tables e below (T.setTop g) target := by
  obtain ⟨cl, A, S, M, H⟩ := A
  subst hj
  exact X.iaload hx (j := Int32.ofNat i) (v := .int (f i)) (by rw [eT]; exact A.1) (State.isArrayOf_alike hZ.alike A.2.1) A.2.2 (by rw [S]; exact own_in hi M) (by rw [own_cl (by omega)]; exact (H i hi).1) hg hs hd
theorem own_ldB (X : Stand p l e R s m args below meth c T locs cells slots) (hx : p.tables.exec = Jvm.exec) (hZ : Z.Warmed39 s.vm) (eT : T.heap = h) (A : IA Z h a .byte n f) {j : Int32} {i : Nat} (hj : j = Int32.ofNat i) (hi : i < n) {g : JFrame} (hg : g.method = m) {rest : List Value} (hs : g.stack = .int j :: .ref a :: rest) (hd : decode c.code g.pc = .ok (.baload, 1)) :
    ∀ target, Steps p.tables e below (T.setTop { g with pc := g.pc + 1, stack := .int (f i) :: rest }) target → Steps p.tables e below (T.setTop g) target := by
  obtain ⟨cl, A, S, M, H⟩ := A
  subst hj
  exact X.baloadBytes hx (j := Int32.ofNat i) (v := .int (f i)) (by rw [eT]; exact A.1) (State.isArrayOf_alike hZ.alike A.2.1) A.2.2 (by rw [S]; exact own_in hi M) (by rw [own_cl (by omega)]; exact (H i hi).1) hg hs hd
theorem own_ldZ (X : Stand p l e R s m args below meth c T locs cells slots) (hx : p.tables.exec = Jvm.exec) (hZ : Z.Warmed39 s.vm) (eT : T.heap = h) (A : IA Z h a .boolean n f) {j : Int32} {i : Nat} (hj : j = Int32.ofNat i) (hi : i < n) {g : JFrame} (hg : g.method = m) {rest : List Value} (hs : g.stack = .int j :: .ref a :: rest) (hd : decode c.code g.pc = .ok (.baload, 1)) :
    ∀ target, Steps p.tables e below (T.setTop { g with pc := g.pc + 1, stack := .int (f i) :: rest }) target → Steps p.tables e below (T.setTop g) target := by
  obtain ⟨cl, A, S, M, H⟩ := A
  subst hj
  exact X.baloadBooleans hx (j := Int32.ofNat i) (v := .int (f i)) (by rw [eT]; exact A.1) (State.isArrayOf_alike hZ.alike A.2.1) A.2.2 (by rw [S]; exact own_in hi M) (by rw [own_cl (by omega)]; exact (H i hi).1) hg hs hd
theorem own_ldC (X : Stand p l e R s m args below meth c T locs cells slots) (hx : p.tables.exec = Jvm.exec) (hZ : Z.Warmed39 s.vm) (eT : T.heap = h) (A : IA Z h a .char n f) {j : Int32} {i : Nat} (hj : j = Int32.ofNat i) (hi : i < n) {g : JFrame} (hg : g.method = m) {rest : List Value} (hs : g.stack = .int j :: .ref a :: rest) (hd : decode c.code g.pc = .ok (.caload, 1)) :
    ∀ target, Steps p.tables e below (T.setTop { g with pc := g.pc + 1, stack := .int (f i) :: rest }) target → Steps p.tables e below (T.setTop g) target := by
  obtain ⟨cl, A, S, M, H⟩ := A
  subst hj
  exact X.caload hx (j := Int32.ofNat i) (v := .int (f i)) (by rw [eT]; exact A.1) (State.isArrayOf_alike hZ.alike A.2.1) A.2.2 (by rw [S]; exact own_in hi M) (by rw [own_cl (by omega)]; exact (H i hi).1) hg hs hd
theorem own_len (X : Stand p l e R s m args below meth c T locs cells slots) (hx : p.tables.exec = Jvm.exec) (hZ : Z.Warmed39 s.vm) (eT : T.heap = h) (A : IA Z h a ty n f) {g : JFrame} (hg : g.method = m) {rest : List Value} (hs : g.stack = .ref a :: rest) (hd : decode c.code g.pc = .ok (.arraylength, 1)) :
    ∀ target, Steps p.tables e below (T.setTop { g with pc := g.pc + 1, stack := .int (Int32.ofNat n) :: rest }) target → Steps p.tables e below (T.setTop g) target := by
  obtain ⟨cl, A, S, M, H⟩ := A
  subst S
  exact X.arraylength hx (by rw [eT]; exact A.1) (State.isArrayOf_alike hZ.alike A.2.1) hg hs hd
end IAs
end Jvm.RoadKit
namespace Jvm.RoadKit
open Sem ClassFile Op Lib Jvm.Stand Jvm.Free Jvm.LawKit
theorem own_eqNat {x : Int32} {n : Nat} (h : x.toInt = n) : x = Int32.ofNat n := Int32.toInt_inj.mp (by rw [h, own_nat (by have := x.toInt_lt; omega)])
theorem own_andN (x m : Int32) (k : Nat) (hk : k < 32) (hm : m.toBitVec.toNat = 2 ^ k - 1) : ∃ n : Nat, n < 2 ^ k ∧ x &&& m = Int32.ofNat n := by
  have h := Jvm.Kit.i32_mask x m hk hm
  have hpos : (0 : Int) < 2 ^ k := Int.pow_pos (by decide)
  have h1 := Int.emod_nonneg x.toInt (Int.ne_of_gt hpos)
  have h2 := Int.emod_lt_of_pos x.toInt hpos
  refine ⟨(x.toInt % 2 ^ k).toNat, ?_, own_eqNat ?_⟩
  · have e : ((2 ^ k : Nat) : Int) = (2 : Int) ^ k := by rw [Int.natCast_pow]; rfl
    omega
  · rw [h]; omega
theorem own_modN (x : Int32) (d : Nat) (h0 : 0 < d) (hd : d < 2 ^ 31) : ∃ n : Nat, n < d ∧ (x &&& 2147483647) % Int32.ofNat d = Int32.ofNat n := by
  have h := Jvm.Kit.i32_mask x 2147483647 (k := 31) (by decide) (by decide)
  have h1 := Int.emod_nonneg x.toInt (show (2 : Int) ^ 31 ≠ 0 by decide)
  have e := Jvm.Kit.i32_rem_nonneg (x := x &&& 2147483647) (y := Int32.ofNat d) (by rw [h]; exact h1)
  rw [own_nat hd] at e
  have h2 := Int.emod_nonneg (x &&& 2147483647).toInt (show (d : Int) ≠ 0 by omega)
  have h3 := Int.emod_lt_of_pos (x &&& 2147483647).toInt (show (0 : Int) < d by omega)
  exact ⟨((x &&& 2147483647).toInt % d).toNat, by omega, own_eqNat (by rw [e]; omega)⟩
theorem own_lt {i n : Nat} (hi : i < 2 ^ 31) (hn : n < 2 ^ 31) : Int32.ofNat i < Int32.ofNat n ↔ i < n := by
  rw [Int32.lt_iff_toInt_lt, own_nat hi, own_nat hn]; omega
theorem own_inj {i n : Nat} (hi : i < 2 ^ 31) (hn : n < 2 ^ 31) : Int32.ofNat i = Int32.ofNat n ↔ i = n := by
  rw [← Int32.toInt_inj, own_nat hi, own_nat hn]; omega
theorem own_add {i n : Nat} (h : i + n < 2 ^ 31) : Int32.ofNat i + Int32.ofNat n = Int32.ofNat (i + n) :=
  own_eqNat (by rw [Jvm.Kit.i32_add (by rw [own_nat (by omega), own_nat (by omega)]; omega) (by rw [own_nat (by omega), own_nat (by omega)]; omega), own_nat (by omega), own_nat (by omega)]; omega)
end Jvm.RoadKit
namespace Jvm.RoadKit
open Sem ClassFile Op Lib Jvm.Stand Jvm.Free Jvm.LawKit
section Switch
variable {p : Program} {l : Launch} {e : Env} {R : Room} {s : State} {m : MethodId} {args : Array Value} {below : List Frame} {meth : Method} {c : Code} {T : State} {locs : List Loc} {cells slots : Nat}
theorem own_lswH (X : Stand p l e R s m args below meth c T locs cells slots) (hx : p.tables.exec = Jvm.exec) {g : JFrame} (hg : g.method = m) {k : Int32} {rest : List Value} {pc0 pc' : Nat} (hpc : g.pc = pc0)
    (hs : g.stack = .int k :: rest) {dflt : Int} {pairs : Array (Int × Int)} {len : Nat} (hd : decode c.code g.pc = .ok (.lookupswitch dflt pairs, len))
    (hsorted : (pairs.toList.zip (pairs.toList.drop 1)).all (fun (a, next) => a.1 < next.1) = true) {a off : Int} (hfind : pairs.find? (·.1 == k.toInt) = some (a, off)) (ho : 0 ≤ (pc0 : Int) + off) (hp : ((pc0 : Int) + off).toNat = pc')
    (target : State) (hr : Steps p.tables e below (T.setTop { g with pc := pc', stack := rest }) target) : Steps p.tables e below (T.setTop g) target := by
  subst hpc hp
  exact X.lookupswitchHit hx hg hs hd hsorted hfind ho target hr
theorem own_lswM (X : Stand p l e R s m args below meth c T locs cells slots) (hx : p.tables.exec = Jvm.exec) {g : JFrame} (hg : g.method = m) {k : Int32} {rest : List Value} {pc0 pc' : Nat} (hpc : g.pc = pc0)
    (hs : g.stack = .int k :: rest) {dflt : Int} {pairs : Array (Int × Int)} {len : Nat} (hd : decode c.code g.pc = .ok (.lookupswitch dflt pairs, len))
    (hsorted : (pairs.toList.zip (pairs.toList.drop 1)).all (fun (a, next) => a.1 < next.1) = true) (hfind : ∀ q ∈ pairs.toList, q.1 ≠ k.toInt) (ho : 0 ≤ (pc0 : Int) + dflt) (hp : ((pc0 : Int) + dflt).toNat = pc')
    (target : State) (hr : Steps p.tables e below (T.setTop { g with pc := pc', stack := rest }) target) : Steps p.tables e below (T.setTop g) target := by
  subst hpc hp
  exact X.lookupswitchMiss hx hg hs hd hsorted (find_miss hfind) ho target hr
theorem own_nk {x y : Int32} {z : Int} (hz : y.toInt = z) (h : ¬ x = y) : z ≠ x.toInt := fun q => h (Int32.toInt_inj.mp (q.symm.trans hz.symm))
end Switch
end Jvm.RoadKit
namespace Jvm.RoadKit
open Sem ClassFile Op Lib Jvm.Stand Jvm.Free Jvm.LawKit
section Statics
variable {Z : State} {args : Array Value} {C n d K : String} {t : Term} {a : Addr}
theorem own_sta (h : (Cond.exactly (.static C n d) K).value args Z none Z [] = some true) (hi : (Cond.initialized C).before args Z = true) (hl : (Cond.laysStatic C n d).before args Z = true) : ∃ a, (Term.static C n d).eval args Z none [] Z = some (.ref a) ∧ Sta Z Z.heap C n d (.ref a) ∧ Exa Z Z.heap a K := by
  obtain ⟨a, e⟩ := exa_v h
  exact ⟨a, e, Sta.start e (Or.inr ⟨hi, hl⟩), Exa.start e h⟩
theorem own_stfI {k : Int32} (e : t.eval args Z none [] Z = some (.ref a)) (h : (Cond.eq (.field t C n d) (.int k)).value args Z none Z [] = some true) : Fld Z Z.heap a C n d (.int k) := by
  apply Fld.start
  simp only [Cond.value, Term.eval, e, Option.bind_eq_bind, Option.bind_some] at h
  cases hf : Z.fieldOf? a C n d with
  | none => simp [hf] at h
  | some x => cases x <;> simp [hf] at h ⊢; exact h
theorem own_stfJ {k : Int64} (e : t.eval args Z none [] Z = some (.ref a)) (h : (Cond.eq (.field t C n d) (.long k)).value args Z none Z [] = some true) : Fld Z Z.heap a C n d (.long k) := by
  apply Fld.start
  simp only [Cond.value, Term.eval, e, Option.bind_eq_bind, Option.bind_some] at h
  cases hf : Z.fieldOf? a C n d with
  | none => simp [hf] at h
  | some x => cases x <;> simp [hf] at h ⊢; exact h
end Statics
end Jvm.RoadKit
namespace Jvm.RoadKit
open Sem ClassFile Op Lib Jvm.Stand Jvm.Free Jvm.LawKit
theorem own_lrem {tb : Tables} [Ours tb] {e : Env} {below : List Frame} {T target : State} {m : MethodId} {c : Code} {g : JFrame} (h : At T m c below) (hx : tb.exec = Jvm.exec) (hg : g.method = m) {x y : Int64} {rest : List Value} (hd : decode c.code g.pc = .ok (.lrem, 1)) (hs : g.stack = .long y :: .long x :: rest) (hy : y ≠ 0)
    (hr : Steps tb e below (T.setTop { g with pc := g.pc + 1, stack := .long (x % y) :: rest }) target) : Steps tb e below (T.setTop g) target :=
  XS.lrem h hx hg hd hs hy (by rw [lrem_mod]; exact hr)
theorem own_irem_mod (x y : Int32) : x - (x / y) * y = x % y := by
  apply Int32.toInt_inj.mp
  have h1 := Int32.le_toInt (x % y)
  have h2 := Int32.toInt_lt (x % y)
  rw [Int32.toInt_sub, Int32.toInt_mul, Int32.toInt_div, Int.bmod_mul_bmod, Int.sub_bmod_bmod, Int.mul_comm (x.toInt.tdiv y.toInt), ← Int.tmod_def, ← Int32.toInt_mod]
  exact Int.bmod_eq_of_le_mul_two (by omega) (by omega)
theorem own_irem {tb : Tables} [Ours tb] {e : Env} {below : List Frame} {T target : State} {m : MethodId} {c : Code} {g : JFrame} (h : At T m c below) (hx : tb.exec = Jvm.exec) (hg : g.method = m) {x y : Int32} {rest : List Value} (hd : decode c.code g.pc = .ok (.irem, 1)) (hs : g.stack = .int y :: .int x :: rest) (hy : y ≠ 0)
    (hr : Steps tb e below (T.setTop { g with pc := g.pc + 1, stack := .int (x % y) :: rest }) target) : Steps tb e below (T.setTop g) target :=
  XS.irem h hx hg hd hs hy (by rw [own_irem_mod]; exact hr)
theorem own_div1 (x : Int64) : x / 1 = x := Int64.toInt_inj.mp (by
  rw [Jvm.Kit.i64_div (fun q => by have := q.2; revert this; decide)]
  show x.toInt.tdiv 1 = x.toInt
  exact Int.tdiv_one _)
end Jvm.RoadKit
namespace Jvm.RoadKit
open Sem ClassFile Op Lib Jvm.Stand Jvm.Free Jvm.LawKit
theorem own_kx {h h' : Heap} (K : Keep h h' []) : Ext h h' := ⟨K.1, fun a c q => K.2.1 a c q nin0⟩
section Unlike
variable {Z : State} {a0 : Array Value}
theorem own_nsroot {O K : String} {n : Nat} (w : (Cond.noSuperclass O).before a0 Z = true) (wk : (Cond.instantiable K n).before a0 Z = true) (hn : O ≠ K) : NS Z O K := by
  obtain ⟨c, k, h1, h2, h3, -, -⟩ := Cond.noSuperclass_spec w
  obtain ⟨t, k', g1, g2, -⟩ := Cond.instantiable_spec wk
  have ne := ids_ne h1 g1 hn
  refine ⟨c, t, h1, g1, fun fuel => ?_⟩
  cases fuel with
  | zero => rfl
  | succ f => simp [Vm.isSubclassAux, ne, h2, h3]
theorem own_nsno {C S K : String} {n : Nat} (w : (Cond.superclass C S).before a0 Z = true) (wk : (Cond.instantiable K n).before a0 Z = true) (N : NS Z C K) (hn : C ≠ K) : ∃ c t, Z.vm.findClass C = some c ∧ Z.vm.findClass K = some t ∧ Z.vm.assignable c t = false := by
  obtain ⟨c, t, h0, g0, n3⟩ := N
  obtain ⟨p, k, kp, h1, h2, h3, h4, h5, -, h7⟩ := Cond.superclass_spec h0 w
  obtain ⟨t', k', g1, g2, g3, g4, -⟩ := Cond.instantiable_spec wk
  cases g0.symm.trans g1
  have g7 : k'.isInterface = false := by
    cases hq : k'.isInterface with
    | false => rfl
    | true => rw [hq] at g4; simp at g4
  have ne := ids_ne h0 g0 hn
  refine ⟨c, t, h0, g0, ?_⟩
  show Z.vm.assignableAux (255 + 1) c t = false
  simp [Vm.assignableAux, ne, h2, g2, h5, g3, g7, Vm.isSubclass, n3]
end Unlike
end Jvm.RoadKit
namespace Jvm.RoadKit
open Sem ClassFile Op Lib Jvm.Stand Jvm.Free Jvm.LawKit
section Clone
variable {p : Program} {l : Launch} {e : Env} {R : Room} {s : State} {m : MethodId} {args : Array Value} {below : List Frame} {meth : Method} {c : Code} {T : State} {locs : List Loc} {cells slots : Nat} {Z : State} {a0 : Array Value} {h : Heap} {a : Addr} {ty : FieldType} {n : Nat} {f : Nat → Int32}
theorem own_clone (X : Stand p l e R s m args below meth c T locs cells slots) (hx : p.tables.exec = Jvm.exec) (hZ : Z.Warmed39 s.vm) {own ad : String} {index : Nat} (hown : s.vm.findClass own = some m.cls)
    (w1 : (Cond.methodLink own index ⟨ad, "clone", "()Ljava/lang/Object;"⟩).before a0 Z = true) (w2 : (Cond.sameMethod ad "java/lang/Object" "clone" "()Ljava/lang/Object;").before a0 Z = true) (w3 : (Cond.native ⟨"java/lang/Object", "clone", "()Ljava/lang/Object;"⟩).before a0 Z = true)
    (w4 : (Cond.instanceMethod ⟨"java/lang/Object", "clone", "()Ljava/lang/Object;"⟩).before a0 Z = true) (w5 : (Cond.selects ad ⟨ad, "clone", "()Ljava/lang/Object;"⟩ ⟨"java/lang/Object", "clone", "()Ljava/lang/Object;"⟩).before a0 Z = true) (w6 : (Cond.castable ad "java/lang/Cloneable").before a0 Z = true)
    (eT : T.heap = h) (A : IA Z h a ty n f) (E : Exa Z h a ad) {g : JFrame} (hg : g.method = m) (hsize : g.locals.size = c.maxLocals) {rest : List Value} (hs : g.stack = .ref a :: rest) (hd : decode c.code g.pc = .ok (.invokevirtual index, 3))
    (hf : 1 ≤ R.frames) {W cap : Nat} (hW : 2 * g.monitorRoom + (rest.map fun v => v.category).sum ≤ W) (hl : W + 14 ≤ R.locals) (hcap : n ≤ cap) (hc : cells + 1 ≤ R.cells) (hsl : slots + cap ≤ R.slots) :
    ∃ T' h', Stand p l e R s m args below meth c T' locs (cells + 1) (slots + cap) ∧ T'.heap = h' ∧ Ext h h' ∧ IA Z h' h.size ty n f ∧ Exa Z h' h.size ad ∧
      ∀ target, Steps p.tables e below (T'.setTop { g with pc := g.pc + 3, stack := .ref h.size :: rest }) target → Steps p.tables e below (T.setTop g) target := by
  obtain ⟨cl, A, S, M, H⟩ := A
  have FC : FitC Z cl := fitC_of A fun i hi v hv => by
    rw [S] at hi
    rw [(H i hi).1] at hv
    cases hv
    exact (H i hi).2
  obtain ⟨T', h', X', e', ex, A', E', st⟩ := cloneA X hx hZ hown w1 w2 w3 w4 w5 w6 eT A E FC hg hsize hs hd hf hW hl (by rw [S]; exact hcap) hc hsl
  exact ⟨T', h', X', e', ex, ⟨cloneOf cl, A', S, M, H⟩, E', st⟩
end Clone
theorem own_sub {i n : Nat} (h : n ≤ i) (hi : i < 2 ^ 31) : Int32.ofNat i - Int32.ofNat n = Int32.ofNat (i - n) :=
  own_eqNat (by rw [Jvm.Kit.i32_sub (by rw [own_nat (by omega), own_nat (by omega)]; omega) (by rw [own_nat (by omega), own_nat (by omega)]; omega), own_nat (by omega), own_nat (by omega)]; omega)
end Jvm.RoadKit
namespace Jvm.RoadKit
open Sem ClassFile Op Lib Jvm.Stand Jvm.Free Jvm.LawKit
theorem own_stak {Z : State} {h h' : Heap} {C n d D : String} {v : Value} {a : Addr} (F : Sta Z h C n d v) (K : Keep h h' [a]) (E : Exa Z h a D) : Sta Z h' C n d v := by
  obtain ⟨cf, i, k, f, st, cell, h1, h2, h3, h4, h5, h6, h7⟩ := F
  obtain ⟨cell', k', e1, -, -, e4, -⟩ := E
  have ne : st ≠ a := fun q => by
    subst q
    cases h5.symm.trans e1
    rw [e4] at h6
    cases h6
  exact ⟨cf, i, k, f, st, cell, h1, h2, h3, h4, K.2.1 _ _ h5 (ninS ne nin0), h6, h7⟩
end Jvm.RoadKit
namespace Jvm.Pilot.@@N@@
open Jvm Jvm.ClassFile Sem Op Lib Jvm.Free Jvm.Stand Jvm.LawKit Jvm.RoadKit Bundle Jvm.Pilot.@@N@@.Jvm.D
theorem pd_0 : parseMethodDescriptor "(C)Z" = some ⟨[.char], some .boolean⟩ := by decide +kernel
theorem pd_1 : parseMethodDescriptor "(C)[B" = some ⟨[.char], some (.array .byte)⟩ := by decide +kernel
theorem pd_2 : parseMethodDescriptor "([BB)V" = some ⟨[(.array .byte), .byte], none⟩ := by decide +kernel
theorem pd_3 : parseMethodDescriptor "(JJJJJ)V" = some ⟨[.long, .long, .long, .long, .long], none⟩ := by decide +kernel
theorem pd_4 : parseMethodDescriptor "(Ljava/lang/Object;)Z" = some ⟨[(.object "java/lang/Object")], some .boolean⟩ := by decide +kernel
theorem pd_5 : parseMethodDescriptor "(C)Ljava/lang/String;" = some ⟨[.char], some (.object "java/lang/String")⟩ := by decide +kernel
theorem d1_0 : decode prog_39_method_1_code 0 = .ok (.aload_n 0, 1) := by decide +kernel
theorem d1_1 : decode prog_39_method_1_code 1 = .ok (.invokespecial 1, 3) := by decide +kernel
theorem d1_4 : decode prog_39_method_1_code 4 = .ok (.aload_n 0, 1) := by decide +kernel
theorem d1_5 : decode prog_39_method_1_code 5 = .ok (.lload_n 1, 1) := by decide +kernel
theorem d1_6 : decode prog_39_method_1_code 6 = .ok (.putfield 7, 3) := by decide +kernel
theorem d1_9 : decode prog_39_method_1_code 9 = .ok (.aload_n 0, 1) := by decide +kernel
theorem d1_10 : decode prog_39_method_1_code 10 = .ok (.lload_n 3, 1) := by decide +kernel
theorem d1_11 : decode prog_39_method_1_code 11 = .ok (.putfield 13, 3) := by decide +kernel
theorem d1_14 : decode prog_39_method_1_code 14 = .ok (.aload_n 0, 1) := by decide +kernel
theorem d1_15 : decode prog_39_method_1_code 15 = .ok (.lload 5, 2) := by decide +kernel
theorem d1_17 : decode prog_39_method_1_code 17 = .ok (.putfield 16, 3) := by decide +kernel
theorem d1_20 : decode prog_39_method_1_code 20 = .ok (.aload_n 0, 1) := by decide +kernel
theorem d1_21 : decode prog_39_method_1_code 21 = .ok (.lload 7, 2) := by decide +kernel
theorem d1_23 : decode prog_39_method_1_code 23 = .ok (.putfield 19, 3) := by decide +kernel
theorem d1_26 : decode prog_39_method_1_code 26 = .ok (.aload_n 0, 1) := by decide +kernel
theorem d1_27 : decode prog_39_method_1_code 27 = .ok (.lload 9, 2) := by decide +kernel
theorem d1_29 : decode prog_39_method_1_code 29 = .ok (.putfield 22, 3) := by decide +kernel
theorem d1_32 : decode prog_39_method_1_code 32 = .ok (.return_, 1) := by decide +kernel
theorem pn_1 : plainName "com/example/outpoint/outpoint/Totals" = true := by first | (simp [plainName, overriddenIn]; done) | decide +kernel
theorem ef_rm1 (m : MethodId) (x0 : Addr) (x1 : Int64) (x2 : Int64) (x3 : Int64) (x4 : Int64) (x5 : Int64) : entryFrame m #[(.ref x0), (.long x1), (.long x2), (.long x3), (.long x4), (.long x5)] 11 = mkF m 0 #[.val (.ref x0), .val (.long x1), .second, .val (.long x2), .second, .val (.long x3), .second, .val (.long x4), .second, .val (.long x5), .second] [] := by first | (simp [entryFrame, mkF, argsToLocals, Value.category]; done) | rfl
def Q_rm1 (Z : State) (r0 : Addr) (q1 : Int64) (q2 : Int64) (q3 : Int64) (q4 : Int64) (q5 : Int64) (h0 : Heap) (n0 : Nat) (v : Option Value) (h : Heap) (L : List Loc) : Prop := v = none ∧ Fr n0 L ∧ Keep h0 h [r0] ∧ Exa Z h r0 "com/example/outpoint/outpoint/Totals" ∧ Fld Z h r0 "com/example/outpoint/outpoint/Totals" "txCount" "J" (.long q1) ∧ Fld Z h r0 "com/example/outpoint/outpoint/Totals" "fundedCount" "J" (.long q2) ∧ Fld Z h r0 "com/example/outpoint/outpoint/Totals" "fundedSum" "J" (.long q3) ∧ Fld Z h r0 "com/example/outpoint/outpoint/Totals" "spentCount" "J" (.long q4) ∧ Fld Z h r0 "com/example/outpoint/outpoint/Totals" "spentSum" "J" (.long q5)
set_option maxRecDepth 65536 in
set_option maxHeartbeats 40000000 in
theorem rm1 (l : Launch) (Z : State) (a0 : Array Value) (hw : ∀ d ∈ tables_1, d.before a0 Z = true) (ws : List Jvm.Cond) (r0 : Addr) (q1 : Int64) (q2 : Int64) (q3 : Int64) (q4 : Int64) (q5 : Int64) (h0 : Heap) (n0 : Nat) (Z0 : n0 ≤ h0.size) (E_r0 : Exa Z h0 r0 "com/example/outpoint/outpoint/Totals") (g_r0 : n0 ≤ r0) (F_r0_txCount : Fld Z h0 r0 "com/example/outpoint/outpoint/Totals" "txCount" "J" (.long (0 : Int64))) (F_r0_fundedCount : Fld Z h0 r0 "com/example/outpoint/outpoint/Totals" "fundedCount" "J" (.long (0 : Int64))) (F_r0_fundedSum : Fld Z h0 r0 "com/example/outpoint/outpoint/Totals" "fundedSum" "J" (.long (0 : Int64))) (F_r0_spentCount : Fld Z h0 r0 "com/example/outpoint/outpoint/Totals" "spentCount" "J" (.long (0 : Int64))) (F_r0_spentSum : Fld Z h0 r0 "com/example/outpoint/outpoint/Totals" "spentSum" "J" (.long (0 : Int64))) :
    MetFree l (⟨"com/example/outpoint/outpoint/Totals", "<init>", "(JJJJJ)V"⟩ : MethodName) (head1 (Jvm.Cond.code (⟨"com/example/outpoint/outpoint/Totals", "<init>", "(JJJJJ)V"⟩ : MethodName) prog_39_method_1_code 11 none :: ws) ({ frames := 1, cells := 0, slots := 0, locals := 12 } : Room)) (fun a U => a = #[(.ref r0), (.long q1), (.long q2), (.long q3), (.long q4), (.long q5)] ∧ Z.Warmed39 U.vm ∧ U.heap = h0) (fun _ _ _ _ _ => True) (fun _ U o U' => ∃ v L, o = .returned v ∧ Q_rm1 Z r0 q1 q2 q3 q4 q5 h0 n0 v U'.heap L ∧ FrameEnd U o U' L ({ frames := 1, cells := 0, slots := 0, locals := 12 } : Room).cells ({ frames := 1, cells := 0, slots := 0, locals := 12 } : Room).slots) := by
  refine MetFree.of_bodySF (plainFor_of_name pn_1) hisR ?_
  intro p e s m args below meth c s₁ Bd hml0 hP hK
  obtain ⟨rfl, hZ, hh⟩ := hP
  have hx := Bd.exec
  have hby := Bd.bytes
  have hml : c.maxLocals = 11 := hml0
  have hown : s.vm.findClass "com/example/outpoint/outpoint/Totals" = some m.cls := findClass_of_methodNamed Bd.named
  have hnm := (name_of_methodNamed Bd.named Bd.method).1
  have hlk : meth.locks = false := BodyLoose.notSynchronized Bd
  have X0 : Stand p l e ({ frames := 1, cells := 0, slots := 0, locals := 12 } : Room) s m #[(.ref r0), (.long q1), (.long q2), (.long q3), (.long q4), (.long q5)] below meth c s₁ [] 0 0 := Stand.of_body Bd
  have e0 : s₁.heap = h0 := by rw [← hh, Bd.state]; rfl
  have N0 := Fr.nil n0
  have K0 : Keep h0 h0 [r0] := Keep.refl _ _
  show Goes p e below s (Q_rm1 Z r0 q1 q2 q3 q4 q5 h0 n0) ({ frames := 1, cells := 0, slots := 0, locals := 12 } : Room).cells ({ frames := 1, cells := 0, slots := 0, locals := 12 } : Room).slots (s₁.setTop (entryFrame m #[(.ref r0), (.long q1), (.long q2), (.long q3), (.long q4), (.long q5)] 11))
  rw [ef_rm1]
  show Goes p e below s _ _ _ (s₁.setTop (mkF m 0 #[.val (.ref r0), .val (.long q1), .second, .val (.long q2), .second, .val (.long q3), .second, .val (.long q4), .second, .val (.long q5), .second] []))
  refine Goes.go (fun _ k => XS.aloadN X0.here hx rfl (hb hby d1_0) rfl rfl  k) ?_
  show Goes p e below s _ _ _ (s₁.setTop (mkF m 1 #[.val (.ref r0), .val (.long q1), .second, .val (.long q2), .second, .val (.long q3), .second, .val (.long q4), .second, .val (.long q5), .second] [(.ref r0)]))
  obtain ⟨T1, X1, e1, st1⟩ := initO X0 hx hZ hown (hw _ (List.mem_of_getElem? (i := 7) rfl)) (hw _ (List.mem_of_getElem? (i := 8) rfl)) (hw _ (List.mem_of_getElem? (i := 9) rfl)) e0 (g := (mkF m 1 #[.val (.ref r0), .val (.long q1), .second, .val (.long q2), .second, .val (.long q3), .second, .val (.long q4), .second, .val (.long q5), .second] [(.ref r0)])) rfl (by rw [hml]; rfl) rfl (hb hby d1_1) (by decide) (W := 0) (by show 2 * 0 + _ ≤ _; exact Nat.le_of_eq rfl) (by decide)
  refine Goes.go st1 ?_
  show Goes p e below s _ _ _ (T1.setTop (mkF m 4 #[.val (.ref r0), .val (.long q1), .second, .val (.long q2), .second, .val (.long q3), .second, .val (.long q4), .second, .val (.long q5), .second] []))
  refine Goes.go (fun _ k => XS.aloadN X1.here hx rfl (hb hby d1_4) rfl rfl  k) ?_
  show Goes p e below s _ _ _ (T1.setTop (mkF m 5 #[.val (.ref r0), .val (.long q1), .second, .val (.long q2), .second, .val (.long q3), .second, .val (.long q4), .second, .val (.long q5), .second] [(.ref r0)]))
  refine Goes.go (fun _ k => XS.lloadN X1.here hx rfl (hb hby d1_5) rfl  k) ?_
  show Goes p e below s _ _ _ (T1.setTop (mkF m 6 #[.val (.ref r0), .val (.long q1), .second, .val (.long q2), .second, .val (.long q3), .second, .val (.long q4), .second, .val (.long q5), .second] [(.long q1), (.ref r0)]))
  obtain ⟨T2, h2, X2, e2, W2, st2⟩ := putF X1 hx hZ hown (host := "") (Or.inl (hw _ (List.mem_of_getElem? (i := 10) rfl))) Via.refl e1 F_r0_txCount E_r0 (Or.inr ⟨(hw _ (List.mem_of_getElem? (i := 11) rfl)), rfl, hnm⟩) (hw _ (List.mem_of_getElem? (i := 2) rfl)) (ty := .long) (by decide) rfl rfl (g := (mkF m 6 #[.val (.ref r0), .val (.long q1), .second, .val (.long q2), .second, .val (.long q3), .second, .val (.long q4), .second, .val (.long q5), .second] [(.long q1), (.ref r0)])) rfl rfl (hb hby d1_6)
  have Fw2 := F_r0_txCount.same W2
  have N2 := Fr.snoc X2 N0 g_r0
  have Z2 := Nat.le_trans Z0 (Keep.of_wr W2).1
  have K2 := Keep.wr K0 W2 (Or.inl (List.mem_of_getElem? (i := 0) rfl))
  refine Goes.go st2 ?_
  show Goes p e below s _ _ _ (T2.setTop (mkF m 9 #[.val (.ref r0), .val (.long q1), .second, .val (.long q2), .second, .val (.long q3), .second, .val (.long q4), .second, .val (.long q5), .second] []))
  refine Goes.go (fun _ k => XS.aloadN X2.here hx rfl (hb hby d1_9) rfl rfl  k) ?_
  show Goes p e below s _ _ _ (T2.setTop (mkF m 10 #[.val (.ref r0), .val (.long q1), .second, .val (.long q2), .second, .val (.long q3), .second, .val (.long q4), .second, .val (.long q5), .second] [(.ref r0)]))
  refine Goes.go (fun _ k => XS.lloadN X2.here hx rfl (hb hby d1_10) rfl  k) ?_
  show Goes p e below s _ _ _ (T2.setTop (mkF m 11 #[.val (.ref r0), .val (.long q1), .second, .val (.long q2), .second, .val (.long q3), .second, .val (.long q4), .second, .val (.long q5), .second] [(.long q2), (.ref r0)]))
  obtain ⟨T3, h3, X3, e3, W3, st3⟩ := putF X2 hx hZ hown (host := "") (Or.inl (hw _ (List.mem_of_getElem? (i := 12) rfl))) Via.refl e2 (F_r0_fundedCount.other W2 (Or.inr (slot_ne (Or.inr (hw _ (List.mem_of_getElem? (i := 13) rfl))) (Or.inr (hw _ (List.mem_of_getElem? (i := 11) rfl))) (by decide) (t := .long) (t' := .long) (by decide) (by decide)))) (E_r0.wr W2) (Or.inr ⟨(hw _ (List.mem_of_getElem? (i := 13) rfl)), rfl, hnm⟩) (hw _ (List.mem_of_getElem? (i := 2) rfl)) (ty := .long) (by decide) rfl rfl (g := (mkF m 11 #[.val (.ref r0), .val (.long q1), .second, .val (.long q2), .second, .val (.long q3), .second, .val (.long q4), .second, .val (.long q5), .second] [(.long q2), (.ref r0)])) rfl rfl (hb hby d1_11)
  have Fw3 := (F_r0_fundedCount.other W2 (Or.inr (slot_ne (Or.inr (hw _ (List.mem_of_getElem? (i := 13) rfl))) (Or.inr (hw _ (List.mem_of_getElem? (i := 11) rfl))) (by decide) (t := .long) (t' := .long) (by decide) (by decide)))).same W3
  have N3 := Fr.snoc X3 N2 g_r0
  have Z3 := Nat.le_trans Z2 (Keep.of_wr W3).1
  have K3 := Keep.wr K2 W3 (Or.inl (List.mem_of_getElem? (i := 0) rfl))
  refine Goes.go st3 ?_
  show Goes p e below s _ _ _ (T3.setTop (mkF m 14 #[.val (.ref r0), .val (.long q1), .second, .val (.long q2), .second, .val (.long q3), .second, .val (.long q4), .second, .val (.long q5), .second] []))
  refine Goes.go (fun _ k => XS.aloadN X3.here hx rfl (hb hby d1_14) rfl rfl  k) ?_
  show Goes p e below s _ _ _ (T3.setTop (mkF m 15 #[.val (.ref r0), .val (.long q1), .second, .val (.long q2), .second, .val (.long q3), .second, .val (.long q4), .second, .val (.long q5), .second] [(.ref r0)]))
  refine Goes.go (fun _ k => XS.lload X3.here hx rfl (hb hby d1_15) rfl  k) ?_
  show Goes p e below s _ _ _ (T3.setTop (mkF m 17 #[.val (.ref r0), .val (.long q1), .second, .val (.long q2), .second, .val (.long q3), .second, .val (.long q4), .second, .val (.long q5), .second] [(.long q3), (.ref r0)]))
  obtain ⟨T4, h4, X4, e4, W4, st4⟩ := putF X3 hx hZ hown (host := "") (Or.inl (hw _ (List.mem_of_getElem? (i := 14) rfl))) Via.refl e3 ((F_r0_fundedSum.other W2 (Or.inr (slot_ne (Or.inr (hw _ (List.mem_of_getElem? (i := 15) rfl))) (Or.inr (hw _ (List.mem_of_getElem? (i := 11) rfl))) (by decide) (t := .long) (t' := .long) (by decide) (by decide)))).other W3 (Or.inr (slot_ne (Or.inr (hw _ (List.mem_of_getElem? (i := 15) rfl))) (Or.inr (hw _ (List.mem_of_getElem? (i := 13) rfl))) (by decide) (t := .long) (t' := .long) (by decide) (by decide)))) ((E_r0.wr W2).wr W3) (Or.inr ⟨(hw _ (List.mem_of_getElem? (i := 15) rfl)), rfl, hnm⟩) (hw _ (List.mem_of_getElem? (i := 2) rfl)) (ty := .long) (by decide) rfl rfl (g := (mkF m 17 #[.val (.ref r0), .val (.long q1), .second, .val (.long q2), .second, .val (.long q3), .second, .val (.long q4), .second, .val (.long q5), .second] [(.long q3), (.ref r0)])) rfl rfl (hb hby d1_17)
  have Fw4 := ((F_r0_fundedSum.other W2 (Or.inr (slot_ne (Or.inr (hw _ (List.mem_of_getElem? (i := 15) rfl))) (Or.inr (hw _ (List.mem_of_getElem? (i := 11) rfl))) (by decide) (t := .long) (t' := .long) (by decide) (by decide)))).other W3 (Or.inr (slot_ne (Or.inr (hw _ (List.mem_of_getElem? (i := 15) rfl))) (Or.inr (hw _ (List.mem_of_getElem? (i := 13) rfl))) (by decide) (t := .long) (t' := .long) (by decide) (by decide)))).same W4
  have N4 := Fr.snoc X4 N3 g_r0
  have Z4 := Nat.le_trans Z3 (Keep.of_wr W4).1
  have K4 := Keep.wr K3 W4 (Or.inl (List.mem_of_getElem? (i := 0) rfl))
  refine Goes.go st4 ?_
  show Goes p e below s _ _ _ (T4.setTop (mkF m 20 #[.val (.ref r0), .val (.long q1), .second, .val (.long q2), .second, .val (.long q3), .second, .val (.long q4), .second, .val (.long q5), .second] []))
  refine Goes.go (fun _ k => XS.aloadN X4.here hx rfl (hb hby d1_20) rfl rfl  k) ?_
  show Goes p e below s _ _ _ (T4.setTop (mkF m 21 #[.val (.ref r0), .val (.long q1), .second, .val (.long q2), .second, .val (.long q3), .second, .val (.long q4), .second, .val (.long q5), .second] [(.ref r0)]))
  refine Goes.go (fun _ k => XS.lload X4.here hx rfl (hb hby d1_21) rfl  k) ?_
  show Goes p e below s _ _ _ (T4.setTop (mkF m 23 #[.val (.ref r0), .val (.long q1), .second, .val (.long q2), .second, .val (.long q3), .second, .val (.long q4), .second, .val (.long q5), .second] [(.long q4), (.ref r0)]))
  obtain ⟨T5, h5, X5, e5, W5, st5⟩ := putF X4 hx hZ hown (host := "") (Or.inl (hw _ (List.mem_of_getElem? (i := 16) rfl))) Via.refl e4 (((F_r0_spentCount.other W2 (Or.inr (slot_ne (Or.inr (hw _ (List.mem_of_getElem? (i := 17) rfl))) (Or.inr (hw _ (List.mem_of_getElem? (i := 11) rfl))) (by decide) (t := .long) (t' := .long) (by decide) (by decide)))).other W3 (Or.inr (slot_ne (Or.inr (hw _ (List.mem_of_getElem? (i := 17) rfl))) (Or.inr (hw _ (List.mem_of_getElem? (i := 13) rfl))) (by decide) (t := .long) (t' := .long) (by decide) (by decide)))).other W4 (Or.inr (slot_ne (Or.inr (hw _ (List.mem_of_getElem? (i := 17) rfl))) (Or.inr (hw _ (List.mem_of_getElem? (i := 15) rfl))) (by decide) (t := .long) (t' := .long) (by decide) (by decide)))) (((E_r0.wr W2).wr W3).wr W4) (Or.inr ⟨(hw _ (List.mem_of_getElem? (i := 17) rfl)), rfl, hnm⟩) (hw _ (List.mem_of_getElem? (i := 2) rfl)) (ty := .long) (by decide) rfl rfl (g := (mkF m 23 #[.val (.ref r0), .val (.long q1), .second, .val (.long q2), .second, .val (.long q3), .second, .val (.long q4), .second, .val (.long q5), .second] [(.long q4), (.ref r0)])) rfl rfl (hb hby d1_23)
  have Fw5 := (((F_r0_spentCount.other W2 (Or.inr (slot_ne (Or.inr (hw _ (List.mem_of_getElem? (i := 17) rfl))) (Or.inr (hw _ (List.mem_of_getElem? (i := 11) rfl))) (by decide) (t := .long) (t' := .long) (by decide) (by decide)))).other W3 (Or.inr (slot_ne (Or.inr (hw _ (List.mem_of_getElem? (i := 17) rfl))) (Or.inr (hw _ (List.mem_of_getElem? (i := 13) rfl))) (by decide) (t := .long) (t' := .long) (by decide) (by decide)))).other W4 (Or.inr (slot_ne (Or.inr (hw _ (List.mem_of_getElem? (i := 17) rfl))) (Or.inr (hw _ (List.mem_of_getElem? (i := 15) rfl))) (by decide) (t := .long) (t' := .long) (by decide) (by decide)))).same W5
  have N5 := Fr.snoc X5 N4 g_r0
  have Z5 := Nat.le_trans Z4 (Keep.of_wr W5).1
  have K5 := Keep.wr K4 W5 (Or.inl (List.mem_of_getElem? (i := 0) rfl))
  refine Goes.go st5 ?_
  show Goes p e below s _ _ _ (T5.setTop (mkF m 26 #[.val (.ref r0), .val (.long q1), .second, .val (.long q2), .second, .val (.long q3), .second, .val (.long q4), .second, .val (.long q5), .second] []))
  refine Goes.go (fun _ k => XS.aloadN X5.here hx rfl (hb hby d1_26) rfl rfl  k) ?_
  show Goes p e below s _ _ _ (T5.setTop (mkF m 27 #[.val (.ref r0), .val (.long q1), .second, .val (.long q2), .second, .val (.long q3), .second, .val (.long q4), .second, .val (.long q5), .second] [(.ref r0)]))
  refine Goes.go (fun _ k => XS.lload X5.here hx rfl (hb hby d1_27) rfl  k) ?_
  show Goes p e below s _ _ _ (T5.setTop (mkF m 29 #[.val (.ref r0), .val (.long q1), .second, .val (.long q2), .second, .val (.long q3), .second, .val (.long q4), .second, .val (.long q5), .second] [(.long q5), (.ref r0)]))
  obtain ⟨T6, h6, X6, e6, W6, st6⟩ := putF X5 hx hZ hown (host := "") (Or.inl (hw _ (List.mem_of_getElem? (i := 18) rfl))) Via.refl e5 ((((F_r0_spentSum.other W2 (Or.inr (slot_ne (Or.inr (hw _ (List.mem_of_getElem? (i := 19) rfl))) (Or.inr (hw _ (List.mem_of_getElem? (i := 11) rfl))) (by decide) (t := .long) (t' := .long) (by decide) (by decide)))).other W3 (Or.inr (slot_ne (Or.inr (hw _ (List.mem_of_getElem? (i := 19) rfl))) (Or.inr (hw _ (List.mem_of_getElem? (i := 13) rfl))) (by decide) (t := .long) (t' := .long) (by decide) (by decide)))).other W4 (Or.inr (slot_ne (Or.inr (hw _ (List.mem_of_getElem? (i := 19) rfl))) (Or.inr (hw _ (List.mem_of_getElem? (i := 15) rfl))) (by decide) (t := .long) (t' := .long) (by decide) (by decide)))).other W5 (Or.inr (slot_ne (Or.inr (hw _ (List.mem_of_getElem? (i := 19) rfl))) (Or.inr (hw _ (List.mem_of_getElem? (i := 17) rfl))) (by decide) (t := .long) (t' := .long) (by decide) (by decide)))) ((((E_r0.wr W2).wr W3).wr W4).wr W5) (Or.inr ⟨(hw _ (List.mem_of_getElem? (i := 19) rfl)), rfl, hnm⟩) (hw _ (List.mem_of_getElem? (i := 2) rfl)) (ty := .long) (by decide) rfl rfl (g := (mkF m 29 #[.val (.ref r0), .val (.long q1), .second, .val (.long q2), .second, .val (.long q3), .second, .val (.long q4), .second, .val (.long q5), .second] [(.long q5), (.ref r0)])) rfl rfl (hb hby d1_29)
  have Fw6 := ((((F_r0_spentSum.other W2 (Or.inr (slot_ne (Or.inr (hw _ (List.mem_of_getElem? (i := 19) rfl))) (Or.inr (hw _ (List.mem_of_getElem? (i := 11) rfl))) (by decide) (t := .long) (t' := .long) (by decide) (by decide)))).other W3 (Or.inr (slot_ne (Or.inr (hw _ (List.mem_of_getElem? (i := 19) rfl))) (Or.inr (hw _ (List.mem_of_getElem? (i := 13) rfl))) (by decide) (t := .long) (t' := .long) (by decide) (by decide)))).other W4 (Or.inr (slot_ne (Or.inr (hw _ (List.mem_of_getElem? (i := 19) rfl))) (Or.inr (hw _ (List.mem_of_getElem? (i := 15) rfl))) (by decide) (t := .long) (t' := .long) (by decide) (by decide)))).other W5 (Or.inr (slot_ne (Or.inr (hw _ (List.mem_of_getElem? (i := 19) rfl))) (Or.inr (hw _ (List.mem_of_getElem? (i := 17) rfl))) (by decide) (t := .long) (t' := .long) (by decide) (by decide)))).same W6
  have N6 := Fr.snoc X6 N5 g_r0
  have Z6 := Nat.le_trans Z5 (Keep.of_wr W6).1
  have K6 := Keep.wr K5 W6 (Or.inl (List.mem_of_getElem? (i := 0) rfl))
  refine Goes.go st6 ?_
  show Goes p e below s _ _ _ (T6.setTop (mkF m 32 #[.val (.ref r0), .val (.long q1), .second, .val (.long q2), .second, .val (.long q3), .second, .val (.long q4), .second, .val (.long q5), .second] []))
  refine Goes.ret0 X6 hx hlk Bd.returns (hb hby d1_32) ?_ (by decide) (by decide)
  exact (show Q_rm1 Z r0 q1 q2 q3 q4 q5 h0 n0 _ T6.heap _ by rw [e6]; exact ⟨rfl, N6, K6, (((((E_r0.wr W2).wr W3).wr W4).wr W5).wr W6), ((((Fw2.other W3 (Or.inr (slot_ne (Or.inr (hw _ (List.mem_of_getElem? (i := 11) rfl))) (Or.inr (hw _ (List.mem_of_getElem? (i := 13) rfl))) (by decide) (t := .long) (t' := .long) (by decide) (by decide)))).other W4 (Or.inr (slot_ne (Or.inr (hw _ (List.mem_of_getElem? (i := 11) rfl))) (Or.inr (hw _ (List.mem_of_getElem? (i := 15) rfl))) (by decide) (t := .long) (t' := .long) (by decide) (by decide)))).other W5 (Or.inr (slot_ne (Or.inr (hw _ (List.mem_of_getElem? (i := 11) rfl))) (Or.inr (hw _ (List.mem_of_getElem? (i := 17) rfl))) (by decide) (t := .long) (t' := .long) (by decide) (by decide)))).other W6 (Or.inr (slot_ne (Or.inr (hw _ (List.mem_of_getElem? (i := 11) rfl))) (Or.inr (hw _ (List.mem_of_getElem? (i := 19) rfl))) (by decide) (t := .long) (t' := .long) (by decide) (by decide)))), (((Fw3.other W4 (Or.inr (slot_ne (Or.inr (hw _ (List.mem_of_getElem? (i := 13) rfl))) (Or.inr (hw _ (List.mem_of_getElem? (i := 15) rfl))) (by decide) (t := .long) (t' := .long) (by decide) (by decide)))).other W5 (Or.inr (slot_ne (Or.inr (hw _ (List.mem_of_getElem? (i := 13) rfl))) (Or.inr (hw _ (List.mem_of_getElem? (i := 17) rfl))) (by decide) (t := .long) (t' := .long) (by decide) (by decide)))).other W6 (Or.inr (slot_ne (Or.inr (hw _ (List.mem_of_getElem? (i := 13) rfl))) (Or.inr (hw _ (List.mem_of_getElem? (i := 19) rfl))) (by decide) (t := .long) (t' := .long) (by decide) (by decide)))), ((Fw4.other W5 (Or.inr (slot_ne (Or.inr (hw _ (List.mem_of_getElem? (i := 15) rfl))) (Or.inr (hw _ (List.mem_of_getElem? (i := 17) rfl))) (by decide) (t := .long) (t' := .long) (by decide) (by decide)))).other W6 (Or.inr (slot_ne (Or.inr (hw _ (List.mem_of_getElem? (i := 15) rfl))) (Or.inr (hw _ (List.mem_of_getElem? (i := 19) rfl))) (by decide) (t := .long) (t' := .long) (by decide) (by decide)))), (Fw5.other W6 (Or.inr (slot_ne (Or.inr (hw _ (List.mem_of_getElem? (i := 17) rfl))) (Or.inr (hw _ (List.mem_of_getElem? (i := 19) rfl))) (by decide) (t := .long) (t' := .long) (by decide) (by decide)))), Fw6⟩)
theorem d3_0 : decode prog_39_method_11_code 0 = .ok (.aload_n 1, 1) := by decide +kernel
theorem d3_1 : decode prog_39_method_11_code 1 = .ok (.instanceof 8, 3) := by decide +kernel
theorem d3_4 : decode prog_39_method_11_code 4 = .ok (.ifCond .eq 72, 3) := by decide +kernel
theorem d3_7 : decode prog_39_method_11_code 7 = .ok (.aload_n 1, 1) := by decide +kernel
theorem d3_8 : decode prog_39_method_11_code 8 = .ok (.checkcast 8, 3) := by decide +kernel
theorem d3_11 : decode prog_39_method_11_code 11 = .ok (.astore_n 2, 1) := by decide +kernel
theorem d3_12 : decode prog_39_method_11_code 12 = .ok (.aload_n 0, 1) := by decide +kernel
theorem d3_13 : decode prog_39_method_11_code 13 = .ok (.getfield 7, 3) := by decide +kernel
theorem d3_16 : decode prog_39_method_11_code 16 = .ok (.aload_n 2, 1) := by decide +kernel
theorem d3_17 : decode prog_39_method_11_code 17 = .ok (.getfield 7, 3) := by decide +kernel
theorem d3_20 : decode prog_39_method_11_code 20 = .ok (.lcmp, 1) := by decide +kernel
theorem d3_21 : decode prog_39_method_11_code 21 = .ok (.ifCond .ne 55, 3) := by decide +kernel
theorem d3_24 : decode prog_39_method_11_code 24 = .ok (.aload_n 0, 1) := by decide +kernel
theorem d3_25 : decode prog_39_method_11_code 25 = .ok (.getfield 13, 3) := by decide +kernel
theorem d3_28 : decode prog_39_method_11_code 28 = .ok (.aload_n 2, 1) := by decide +kernel
theorem d3_29 : decode prog_39_method_11_code 29 = .ok (.getfield 13, 3) := by decide +kernel
theorem d3_32 : decode prog_39_method_11_code 32 = .ok (.lcmp, 1) := by decide +kernel
theorem d3_33 : decode prog_39_method_11_code 33 = .ok (.ifCond .ne 43, 3) := by decide +kernel
theorem d3_36 : decode prog_39_method_11_code 36 = .ok (.aload_n 0, 1) := by decide +kernel
theorem d3_37 : decode prog_39_method_11_code 37 = .ok (.getfield 16, 3) := by decide +kernel
theorem d3_40 : decode prog_39_method_11_code 40 = .ok (.aload_n 2, 1) := by decide +kernel
theorem d3_41 : decode prog_39_method_11_code 41 = .ok (.getfield 16, 3) := by decide +kernel
theorem d3_44 : decode prog_39_method_11_code 44 = .ok (.lcmp, 1) := by decide +kernel
theorem d3_45 : decode prog_39_method_11_code 45 = .ok (.ifCond .ne 31, 3) := by decide +kernel
theorem d3_48 : decode prog_39_method_11_code 48 = .ok (.aload_n 0, 1) := by decide +kernel
theorem d3_49 : decode prog_39_method_11_code 49 = .ok (.getfield 19, 3) := by decide +kernel
theorem d3_52 : decode prog_39_method_11_code 52 = .ok (.aload_n 2, 1) := by decide +kernel
theorem d3_53 : decode prog_39_method_11_code 53 = .ok (.getfield 19, 3) := by decide +kernel
theorem d3_56 : decode prog_39_method_11_code 56 = .ok (.lcmp, 1) := by decide +kernel
theorem d3_57 : decode prog_39_method_11_code 57 = .ok (.ifCond .ne 19, 3) := by decide +kernel
theorem d3_60 : decode prog_39_method_11_code 60 = .ok (.aload_n 0, 1) := by decide +kernel
theorem d3_61 : decode prog_39_method_11_code 61 = .ok (.getfield 22, 3) := by decide +kernel
theorem d3_64 : decode prog_39_method_11_code 64 = .ok (.aload_n 2, 1) := by decide +kernel
theorem d3_65 : decode prog_39_method_11_code 65 = .ok (.getfield 22, 3) := by decide +kernel
theorem d3_68 : decode prog_39_method_11_code 68 = .ok (.lcmp, 1) := by decide +kernel
theorem d3_69 : decode prog_39_method_11_code 69 = .ok (.ifCond .ne 7, 3) := by decide +kernel
theorem d3_72 : decode prog_39_method_11_code 72 = .ok (.iconst 1, 1) := by decide +kernel
theorem d3_73 : decode prog_39_method_11_code 73 = .ok (.goto 4, 3) := by decide +kernel
theorem d3_76 : decode prog_39_method_11_code 76 = .ok (.iconst 0, 1) := by decide +kernel
theorem d3_77 : decode prog_39_method_11_code 77 = .ok (.ireturn, 1) := by decide +kernel
theorem pn_3 : plainName "com/example/outpoint/outpoint/Totals" = true := by first | (simp [plainName, overriddenIn]; done) | decide +kernel
theorem ef_rm3 (m : MethodId) (x0 : Addr) (x1 : Addr) : entryFrame m #[(.ref x0), (.ref x1)] 3 = mkF m 0 #[.val (.ref x0), .val (.ref x1), .unset] [] := by first | (simp [entryFrame, mkF, argsToLocals, Value.category]; done) | rfl
def f3_76 (r0 : Addr) (r1 : Addr) (w_r0_txCount : Int64) (w_r0_fundedCount : Int64) (w_r0_fundedSum : Int64) (w_r0_spentCount : Int64) (w_r0_spentSum : Int64) (w_r1_txCount : Int64) (w_r1_fundedCount : Int64) (w_r1_fundedSum : Int64) (w_r1_spentCount : Int64) (w_r1_spentSum : Int64) : Int32 := (0 : Int32)
def f3 (r0 : Addr) (r1 : Addr) (w_r0_txCount : Int64) (w_r0_fundedCount : Int64) (w_r0_fundedSum : Int64) (w_r0_spentCount : Int64) (w_r0_spentSum : Int64) (w_r1_txCount : Int64) (w_r1_fundedCount : Int64) (w_r1_fundedSum : Int64) (w_r1_spentCount : Int64) (w_r1_spentSum : Int64) : Int32 := (if w_r0_txCount = w_r1_txCount then (if w_r0_fundedCount = w_r1_fundedCount then (if w_r0_fundedSum = w_r1_fundedSum then (if w_r0_spentCount = w_r1_spentCount then (nar .boolean (if w_r0_spentSum = w_r1_spentSum then (1 : Int32) else (0 : Int32))) else (f3_76 r0 r1 w_r0_txCount w_r0_fundedCount w_r0_fundedSum w_r0_spentCount w_r0_spentSum w_r1_txCount w_r1_fundedCount w_r1_fundedSum w_r1_spentCount w_r1_spentSum)) else (f3_76 r0 r1 w_r0_txCount w_r0_fundedCount w_r0_fundedSum w_r0_spentCount w_r0_spentSum w_r1_txCount w_r1_fundedCount w_r1_fundedSum w_r1_spentCount w_r1_spentSum)) else (f3_76 r0 r1 w_r0_txCount w_r0_fundedCount w_r0_fundedSum w_r0_spentCount w_r0_spentSum w_r1_txCount w_r1_fundedCount w_r1_fundedSum w_r1_spentCount w_r1_spentSum)) else (f3_76 r0 r1 w_r0_txCount w_r0_fundedCount w_r0_fundedSum w_r0_spentCount w_r0_spentSum w_r1_txCount w_r1_fundedCount w_r1_fundedSum w_r1_spentCount w_r1_spentSum))
set_option maxRecDepth 65536 in
set_option maxHeartbeats 40000000 in
theorem rm3 (l : Launch) (Z : State) (a0 : Array Value) (hw : ∀ d ∈ tables_1, d.before a0 Z = true) (ws : List Jvm.Cond) (r0 : Addr) (r1 : Addr) (w_r0_txCount : Int64) (w_r0_fundedCount : Int64) (w_r0_fundedSum : Int64) (w_r0_spentCount : Int64) (w_r0_spentSum : Int64) (w_r1_txCount : Int64) (w_r1_fundedCount : Int64) (w_r1_fundedSum : Int64) (w_r1_spentCount : Int64) (w_r1_spentSum : Int64) (h0 : Heap) (n0 : Nat) (Z0 : n0 ≤ h0.size) (E_r1 : Exa Z h0 r1 "com/example/outpoint/outpoint/Totals") (F_r0_txCount : Fld Z h0 r0 "com/example/outpoint/outpoint/Totals" "txCount" "J" (.long w_r0_txCount)) (F_r0_fundedCount : Fld Z h0 r0 "com/example/outpoint/outpoint/Totals" "fundedCount" "J" (.long w_r0_fundedCount)) (F_r0_fundedSum : Fld Z h0 r0 "com/example/outpoint/outpoint/Totals" "fundedSum" "J" (.long w_r0_fundedSum)) (F_r0_spentCount : Fld Z h0 r0 "com/example/outpoint/outpoint/Totals" "spentCount" "J" (.long w_r0_spentCount)) (F_r0_spentSum : Fld Z h0 r0 "com/example/outpoint/outpoint/Totals" "spentSum" "J" (.long w_r0_spentSum)) (F_r1_txCount : Fld Z h0 r1 "com/example/outpoint/outpoint/Totals" "txCount" "J" (.long w_r1_txCount)) (F_r1_fundedCount : Fld Z h0 r1 "com/example/outpoint/outpoint/Totals" "fundedCount" "J" (.long w_r1_fundedCount)) (F_r1_fundedSum : Fld Z h0 r1 "com/example/outpoint/outpoint/Totals" "fundedSum" "J" (.long w_r1_fundedSum)) (F_r1_spentCount : Fld Z h0 r1 "com/example/outpoint/outpoint/Totals" "spentCount" "J" (.long w_r1_spentCount)) (F_r1_spentSum : Fld Z h0 r1 "com/example/outpoint/outpoint/Totals" "spentSum" "J" (.long w_r1_spentSum)) :
    MetFree l (⟨"com/example/outpoint/outpoint/Totals", "equals", "(Ljava/lang/Object;)Z"⟩ : MethodName) (head1 (Jvm.Cond.code (⟨"com/example/outpoint/outpoint/Totals", "equals", "(Ljava/lang/Object;)Z"⟩ : MethodName) prog_39_method_11_code 3 (some .boolean) :: ws) ({ frames := 0, cells := 0, slots := 0, locals := 0 } : Room)) (fun a U => a = #[(.ref r0), (.ref r1)] ∧ Z.Warmed39 U.vm ∧ U.heap = h0) (fun _ _ _ _ _ => True) (fun _ U o U' => ∃ v L, o = .returned v ∧ Qp (.int (f3 r0 r1 w_r0_txCount w_r0_fundedCount w_r0_fundedSum w_r0_spentCount w_r0_spentSum w_r1_txCount w_r1_fundedCount w_r1_fundedSum w_r1_spentCount w_r1_spentSum)) h0 n0 v U'.heap L ∧ FrameEnd U o U' L ({ frames := 0, cells := 0, slots := 0, locals := 0 } : Room).cells ({ frames := 0, cells := 0, slots := 0, locals := 0 } : Room).slots) := by
  refine MetFree.of_bodySF (plainFor_of_name pn_3) hisR ?_
  intro p e s m args below meth c s₁ Bd hml0 hP hK
  obtain ⟨rfl, hZ, hh⟩ := hP
  have hx := Bd.exec
  have hby := Bd.bytes
  have hml : c.maxLocals = 3 := hml0
  have hown : s.vm.findClass "com/example/outpoint/outpoint/Totals" = some m.cls := findClass_of_methodNamed Bd.named
  have hnm := (name_of_methodNamed Bd.named Bd.method).1
  have hlk : meth.locks = false := BodyLoose.notSynchronized Bd
  have X0 : Stand p l e ({ frames := 0, cells := 0, slots := 0, locals := 0 } : Room) s m #[(.ref r0), (.ref r1)] below meth c s₁ [] 0 0 := Stand.of_body Bd
  have e0 : s₁.heap = h0 := by rw [← hh, Bd.state]; rfl
  have N0 := Fr.nil n0
  have K0 : Keep h0 h0 [] := Keep.refl _ _
  show Goes p e below s (Qp (.int (f3 r0 r1 w_r0_txCount w_r0_fundedCount w_r0_fundedSum w_r0_spentCount w_r0_spentSum w_r1_txCount w_r1_fundedCount w_r1_fundedSum w_r1_spentCount w_r1_spentSum)) h0 n0) ({ frames := 0, cells := 0, slots := 0, locals := 0 } : Room).cells ({ frames := 0, cells := 0, slots := 0, locals := 0 } : Room).slots (s₁.setTop (entryFrame m #[(.ref r0), (.ref r1)] 3))
  rw [ef_rm3]
  have J76 : ∀ {TJ : State} {lj : List Loc} (XJ : Stand p l e ({ frames := 0, cells := 0, slots := 0, locals := 0 } : Room) s m #[(.ref r0), (.ref r1)] below meth c TJ lj 0 0) (eJ : TJ.heap = h0) (NJ : Fr n0 lj), Goes p e below s (Qp (.int (f3_76 r0 r1 w_r0_txCount w_r0_fundedCount w_r0_fundedSum w_r0_spentCount w_r0_spentSum w_r1_txCount w_r1_fundedCount w_r1_fundedSum w_r1_spentCount w_r1_spentSum)) h0 n0) ({ frames := 0, cells := 0, slots := 0, locals := 0 } : Room).cells ({ frames := 0, cells := 0, slots := 0, locals := 0 } : Room).slots (TJ.setTop (mkF m 76 #[.val (.ref r0), .val (.ref r1), .val (.ref r1)] [])) := by
    intro TJ lj XJ eJ NJ
    show Goes p e below s _ _ _ (TJ.setTop (mkF m 76 #[.val (.ref r0), .val (.ref r1), .val (.ref r1)] []))
    refine Goes.go (fun _ k => XS.iconst XJ.here hx rfl (hb hby d3_76) k) ?_
    show Goes p e below s _ _ _ (TJ.setTop (mkF m 77 #[.val (.ref r0), .val (.ref r1), .val (.ref r1)] [(.int (0 : Int32))]))
    refine Goes.retN .boolean XJ hx hlk Bd.returns (by simp) (hb hby d3_77) ?_ (by decide) (by decide)
    exact ⟨by rfl, NJ, eJ⟩
  show Goes p e below s _ _ _ (s₁.setTop (mkF m 0 #[.val (.ref r0), .val (.ref r1), .unset] []))
  refine Goes.go (fun _ k => XS.aloadN X0.here hx rfl (hb hby d3_0) rfl rfl  k) ?_
  show Goes p e below s _ _ _ (s₁.setTop (mkF m 1 #[.val (.ref r0), .val (.ref r1), .unset] [(.ref r1)]))
  obtain ⟨T1, X1, e1, st1⟩ := instY X0 hx hZ hown (hw _ (List.mem_of_getElem? (i := 25) rfl)) e0 (Ins.self E_r1) (g := (mkF m 1 #[.val (.ref r0), .val (.ref r1), .unset] [(.ref r1)])) rfl rfl (hb hby d3_1)
  refine Goes.go st1 ?_
  show Goes p e below s _ _ _ (T1.setTop (mkF m 4 #[.val (.ref r0), .val (.ref r1), .unset] [(.int (1 : Int32))]))
  have hc4_2 : ¬ ((1 : Int32) = (0 : Int32)) := (by decide)
  refine Goes.go (fun _ k => XS.ifNo X1.here hx rfl (hb hby d3_4) rfl ((if0 _ _).trans (feq hc4_2).1) k) ?_
  show Goes p e below s _ _ _ (T1.setTop (mkF m 7 #[.val (.ref r0), .val (.ref r1), .unset] []))
  refine Goes.go (fun _ k => XS.aloadN X1.here hx rfl (hb hby d3_7) rfl rfl  k) ?_
  show Goes p e below s _ _ _ (T1.setTop (mkF m 8 #[.val (.ref r0), .val (.ref r1), .unset] [(.ref r1)]))
  obtain ⟨T3, X3, e3, st3⟩ := castY X1 hx hZ hown (hw _ (List.mem_of_getElem? (i := 25) rfl)) e1 (Ins.self E_r1) (g := (mkF m 8 #[.val (.ref r0), .val (.ref r1), .unset] [(.ref r1)])) rfl rfl (hb hby d3_8)
  refine Goes.go st3 ?_
  show Goes p e below s _ _ _ (T3.setTop (mkF m 11 #[.val (.ref r0), .val (.ref r1), .unset] [(.ref r1)]))
  refine Goes.go (fun _ k => XS.astoreN X3.here hx rfl (hb hby d3_11) rfl rfl (l' := #[.val (.ref r0), .val (.ref r1), .val (.ref r1)]) rfl k) ?_
  show Goes p e below s _ _ _ (T3.setTop (mkF m 12 #[.val (.ref r0), .val (.ref r1), .val (.ref r1)] []))
  refine Goes.go (fun _ k => XS.aloadN X3.here hx rfl (hb hby d3_12) rfl rfl  k) ?_
  show Goes p e below s _ _ _ (T3.setTop (mkF m 13 #[.val (.ref r0), .val (.ref r1), .val (.ref r1)] [(.ref r0)]))
  obtain ⟨T4, X4, e4, st4⟩ := getF X3 hx hZ hown (host := "") (Or.inl (hw _ (List.mem_of_getElem? (i := 10) rfl))) Via.refl e3 F_r0_txCount (g := (mkF m 13 #[.val (.ref r0), .val (.ref r1), .val (.ref r1)] [(.ref r0)])) rfl rfl (hb hby d3_13)
  refine Goes.go st4 ?_
  show Goes p e below s _ _ _ (T4.setTop (mkF m 16 #[.val (.ref r0), .val (.ref r1), .val (.ref r1)] [(.long w_r0_txCount)]))
  refine Goes.go (fun _ k => XS.aloadN X4.here hx rfl (hb hby d3_16) rfl rfl  k) ?_
  show Goes p e below s _ _ _ (T4.setTop (mkF m 17 #[.val (.ref r0), .val (.ref r1), .val (.ref r1)] [(.ref r1), (.long w_r0_txCount)]))
  obtain ⟨T5, X5, e5, st5⟩ := getF X4 hx hZ hown (host := "") (Or.inl (hw _ (List.mem_of_getElem? (i := 10) rfl))) Via.refl e4 F_r1_txCount (g := (mkF m 17 #[.val (.ref r0), .val (.ref r1), .val (.ref r1)] [(.ref r1), (.long w_r0_txCount)])) rfl rfl (hb hby d3_17)
  refine Goes.go st5 ?_
  show Goes p e below s _ _ _ (T5.setTop (mkF m 20 #[.val (.ref r0), .val (.ref r1), .val (.ref r1)] [(.long w_r1_txCount), (.long w_r0_txCount)]))
  refine Goes.go (fun _ k => XS.lcmp X5.here hx rfl (hb hby d3_20) rfl k) ?_
  show Goes p e below s _ _ _ (T5.setTop (mkF m 21 #[.val (.ref r0), .val (.ref r1), .val (.ref r1)] [(.int (lcmpW w_r0_txCount w_r1_txCount))]))
  by_cases hc21_6 : w_r0_txCount = w_r1_txCount
  · skip
    refine Goes.qi (if_pos hc21_6) ?_
    refine Goes.go (fun _ k => XS.ifNo X5.here hx rfl (hb hby d3_21) rfl ((if0 _ _).trans (teq ((lw_eq w_r0_txCount w_r1_txCount).mpr hc21_6)).2) k) ?_
    show Goes p e below s _ _ _ (T5.setTop (mkF m 24 #[.val (.ref r0), .val (.ref r1), .val (.ref r1)] []))
    refine Goes.go (fun _ k => XS.aloadN X5.here hx rfl (hb hby d3_24) rfl rfl  k) ?_
    show Goes p e below s _ _ _ (T5.setTop (mkF m 25 #[.val (.ref r0), .val (.ref r1), .val (.ref r1)] [(.ref r0)]))
    obtain ⟨T7, X7, e7, st7⟩ := getF X5 hx hZ hown (host := "") (Or.inl (hw _ (List.mem_of_getElem? (i := 12) rfl))) Via.refl e5 F_r0_fundedCount (g := (mkF m 25 #[.val (.ref r0), .val (.ref r1), .val (.ref r1)] [(.ref r0)])) rfl rfl (hb hby d3_25)
    refine Goes.go st7 ?_
    show Goes p e below s _ _ _ (T7.setTop (mkF m 28 #[.val (.ref r0), .val (.ref r1), .val (.ref r1)] [(.long w_r0_fundedCount)]))
    refine Goes.go (fun _ k => XS.aloadN X7.here hx rfl (hb hby d3_28) rfl rfl  k) ?_
    show Goes p e below s _ _ _ (T7.setTop (mkF m 29 #[.val (.ref r0), .val (.ref r1), .val (.ref r1)] [(.ref r1), (.long w_r0_fundedCount)]))
    obtain ⟨T8, X8, e8, st8⟩ := getF X7 hx hZ hown (host := "") (Or.inl (hw _ (List.mem_of_getElem? (i := 12) rfl))) Via.refl e7 F_r1_fundedCount (g := (mkF m 29 #[.val (.ref r0), .val (.ref r1), .val (.ref r1)] [(.ref r1), (.long w_r0_fundedCount)])) rfl rfl (hb hby d3_29)
    refine Goes.go st8 ?_
    show Goes p e below s _ _ _ (T8.setTop (mkF m 32 #[.val (.ref r0), .val (.ref r1), .val (.ref r1)] [(.long w_r1_fundedCount), (.long w_r0_fundedCount)]))
    refine Goes.go (fun _ k => XS.lcmp X8.here hx rfl (hb hby d3_32) rfl k) ?_
    show Goes p e below s _ _ _ (T8.setTop (mkF m 33 #[.val (.ref r0), .val (.ref r1), .val (.ref r1)] [(.int (lcmpW w_r0_fundedCount w_r1_fundedCount))]))
    by_cases hc33_9 : w_r0_fundedCount = w_r1_fundedCount
    · skip
      refine Goes.qi (if_pos hc33_9) ?_
      refine Goes.go (fun _ k => XS.ifNo X8.here hx rfl (hb hby d3_33) rfl ((if0 _ _).trans (teq ((lw_eq w_r0_fundedCount w_r1_fundedCount).mpr hc33_9)).2) k) ?_
      show Goes p e below s _ _ _ (T8.setTop (mkF m 36 #[.val (.ref r0), .val (.ref r1), .val (.ref r1)] []))
      refine Goes.go (fun _ k => XS.aloadN X8.here hx rfl (hb hby d3_36) rfl rfl  k) ?_
      show Goes p e below s _ _ _ (T8.setTop (mkF m 37 #[.val (.ref r0), .val (.ref r1), .val (.ref r1)] [(.ref r0)]))
      obtain ⟨T10, X10, e10, st10⟩ := getF X8 hx hZ hown (host := "") (Or.inl (hw _ (List.mem_of_getElem? (i := 14) rfl))) Via.refl e8 F_r0_fundedSum (g := (mkF m 37 #[.val (.ref r0), .val (.ref r1), .val (.ref r1)] [(.ref r0)])) rfl rfl (hb hby d3_37)
      refine Goes.go st10 ?_
      show Goes p e below s _ _ _ (T10.setTop (mkF m 40 #[.val (.ref r0), .val (.ref r1), .val (.ref r1)] [(.long w_r0_fundedSum)]))
      refine Goes.go (fun _ k => XS.aloadN X10.here hx rfl (hb hby d3_40) rfl rfl  k) ?_
      show Goes p e below s _ _ _ (T10.setTop (mkF m 41 #[.val (.ref r0), .val (.ref r1), .val (.ref r1)] [(.ref r1), (.long w_r0_fundedSum)]))
      obtain ⟨T11, X11, e11, st11⟩ := getF X10 hx hZ hown (host := "") (Or.inl (hw _ (List.mem_of_getElem? (i := 14) rfl))) Via.refl e10 F_r1_fundedSum (g := (mkF m 41 #[.val (.ref r0), .val (.ref r1), .val (.ref r1)] [(.ref r1), (.long w_r0_fundedSum)])) rfl rfl (hb hby d3_41)
      refine Goes.go st11 ?_
      show Goes p e below s _ _ _ (T11.setTop (mkF m 44 #[.val (.ref r0), .val (.ref r1), .val (.ref r1)] [(.long w_r1_fundedSum), (.long w_r0_fundedSum)]))
      refine Goes.go (fun _ k => XS.lcmp X11.here hx rfl (hb hby d3_44) rfl k) ?_
      show Goes p e below s _ _ _ (T11.setTop (mkF m 45 #[.val (.ref r0), .val (.ref r1), .val (.ref r1)] [(.int (lcmpW w_r0_fundedSum w_r1_fundedSum))]))
      by_cases hc45_12 : w_r0_fundedSum = w_r1_fundedSum
      · skip
        refine Goes.qi (if_pos hc45_12) ?_
        refine Goes.go (fun _ k => XS.ifNo X11.here hx rfl (hb hby d3_45) rfl ((if0 _ _).trans (teq ((lw_eq w_r0_fundedSum w_r1_fundedSum).mpr hc45_12)).2) k) ?_
        show Goes p e below s _ _ _ (T11.setTop (mkF m 48 #[.val (.ref r0), .val (.ref r1), .val (.ref r1)] []))
        refine Goes.go (fun _ k => XS.aloadN X11.here hx rfl (hb hby d3_48) rfl rfl  k) ?_
        show Goes p e below s _ _ _ (T11.setTop (mkF m 49 #[.val (.ref r0), .val (.ref r1), .val (.ref r1)] [(.ref r0)]))
        obtain ⟨T13, X13, e13, st13⟩ := getF X11 hx hZ hown (host := "") (Or.inl (hw _ (List.mem_of_getElem? (i := 16) rfl))) Via.refl e11 F_r0_spentCount (g := (mkF m 49 #[.val (.ref r0), .val (.ref r1), .val (.ref r1)] [(.ref r0)])) rfl rfl (hb hby d3_49)
        refine Goes.go st13 ?_
        show Goes p e below s _ _ _ (T13.setTop (mkF m 52 #[.val (.ref r0), .val (.ref r1), .val (.ref r1)] [(.long w_r0_spentCount)]))
        refine Goes.go (fun _ k => XS.aloadN X13.here hx rfl (hb hby d3_52) rfl rfl  k) ?_
        show Goes p e below s _ _ _ (T13.setTop (mkF m 53 #[.val (.ref r0), .val (.ref r1), .val (.ref r1)] [(.ref r1), (.long w_r0_spentCount)]))
        obtain ⟨T14, X14, e14, st14⟩ := getF X13 hx hZ hown (host := "") (Or.inl (hw _ (List.mem_of_getElem? (i := 16) rfl))) Via.refl e13 F_r1_spentCount (g := (mkF m 53 #[.val (.ref r0), .val (.ref r1), .val (.ref r1)] [(.ref r1), (.long w_r0_spentCount)])) rfl rfl (hb hby d3_53)
        refine Goes.go st14 ?_
        show Goes p e below s _ _ _ (T14.setTop (mkF m 56 #[.val (.ref r0), .val (.ref r1), .val (.ref r1)] [(.long w_r1_spentCount), (.long w_r0_spentCount)]))
        refine Goes.go (fun _ k => XS.lcmp X14.here hx rfl (hb hby d3_56) rfl k) ?_
        show Goes p e below s _ _ _ (T14.setTop (mkF m 57 #[.val (.ref r0), .val (.ref r1), .val (.ref r1)] [(.int (lcmpW w_r0_spentCount w_r1_spentCount))]))
        by_cases hc57_15 : w_r0_spentCount = w_r1_spentCount
        · skip
          refine Goes.qi (if_pos hc57_15) ?_
          refine Goes.go (fun _ k => XS.ifNo X14.here hx rfl (hb hby d3_57) rfl ((if0 _ _).trans (teq ((lw_eq w_r0_spentCount w_r1_spentCount).mpr hc57_15)).2) k) ?_
          show Goes p e below s _ _ _ (T14.setTop (mkF m 60 #[.val (.ref r0), .val (.ref r1), .val (.ref r1)] []))
          refine Goes.go (fun _ k => XS.aloadN X14.here hx rfl (hb hby d3_60) rfl rfl  k) ?_
          show Goes p e below s _ _ _ (T14.setTop (mkF m 61 #[.val (.ref r0), .val (.ref r1), .val (.ref r1)] [(.ref r0)]))
          obtain ⟨T16, X16, e16, st16⟩ := getF X14 hx hZ hown (host := "") (Or.inl (hw _ (List.mem_of_getElem? (i := 18) rfl))) Via.refl e14 F_r0_spentSum (g := (mkF m 61 #[.val (.ref r0), .val (.ref r1), .val (.ref r1)] [(.ref r0)])) rfl rfl (hb hby d3_61)
          refine Goes.go st16 ?_
          show Goes p e below s _ _ _ (T16.setTop (mkF m 64 #[.val (.ref r0), .val (.ref r1), .val (.ref r1)] [(.long w_r0_spentSum)]))
          refine Goes.go (fun _ k => XS.aloadN X16.here hx rfl (hb hby d3_64) rfl rfl  k) ?_
          show Goes p e below s _ _ _ (T16.setTop (mkF m 65 #[.val (.ref r0), .val (.ref r1), .val (.ref r1)] [(.ref r1), (.long w_r0_spentSum)]))
          obtain ⟨T17, X17, e17, st17⟩ := getF X16 hx hZ hown (host := "") (Or.inl (hw _ (List.mem_of_getElem? (i := 18) rfl))) Via.refl e16 F_r1_spentSum (g := (mkF m 65 #[.val (.ref r0), .val (.ref r1), .val (.ref r1)] [(.ref r1), (.long w_r0_spentSum)])) rfl rfl (hb hby d3_65)
          refine Goes.go st17 ?_
          show Goes p e below s _ _ _ (T17.setTop (mkF m 68 #[.val (.ref r0), .val (.ref r1), .val (.ref r1)] [(.long w_r1_spentSum), (.long w_r0_spentSum)]))
          refine Goes.go (fun _ k => XS.lcmp X17.here hx rfl (hb hby d3_68) rfl k) ?_
          show Goes p e below s _ _ _ (T17.setTop (mkF m 69 #[.val (.ref r0), .val (.ref r1), .val (.ref r1)] [(.int (lcmpW w_r0_spentSum w_r1_spentSum))]))
          obtain ⟨z18_s0, hz18_s0⟩ : ∃ z : Int32, z = if w_r0_spentSum = w_r1_spentSum then (1 : Int32) else (0 : Int32) := ⟨_, rfl⟩
          have sm18 : ∀ t, Steps p.tables e below (T17.setTop (mkF m 77 #[.val (.ref r0), .val (.ref r1), .val (.ref r1)] [(.int z18_s0)])) t → Steps p.tables e below (T17.setTop (mkF m 69 #[.val (.ref r0), .val (.ref r1), .val (.ref r1)] [(.int (lcmpW w_r0_spentSum w_r1_spentSum))])) t := by
            intro t k
            by_cases hc69_18 : w_r0_spentSum = w_r1_spentSum
            · have k2 : Steps p.tables e below (T17.setTop (mkF m 77 #[.val (.ref r0), .val (.ref r1), .val (.ref r1)] [(.int (1 : Int32))])) t := by simpa only [hz18_s0, if_pos hc69_18] using k
              show Steps p.tables e below (T17.setTop (mkF m 69 #[.val (.ref r0), .val (.ref r1), .val (.ref r1)] [(.int (lcmpW w_r0_spentSum w_r1_spentSum))])) _
              refine XS.ifNo X17.here hx rfl (hb hby d3_69) rfl ((if0 _ _).trans (teq ((lw_eq w_r0_spentSum w_r1_spentSum).mpr hc69_18)).2) ?_
              show Steps p.tables e below (T17.setTop (mkF m 72 #[.val (.ref r0), .val (.ref r1), .val (.ref r1)] [])) _
              refine XS.iconst X17.here hx rfl (hb hby d3_72) ?_
              show Steps p.tables e below (T17.setTop (mkF m 73 #[.val (.ref r0), .val (.ref r1), .val (.ref r1)] [(.int (1 : Int32))])) _
              refine XS.goto X17.here hx rfl (pc0 := 73) (pc' := 77) rfl (hb hby d3_73) (by decide) (by decide) ?_
              exact k2
            · have k2 : Steps p.tables e below (T17.setTop (mkF m 77 #[.val (.ref r0), .val (.ref r1), .val (.ref r1)] [(.int (0 : Int32))])) t := by simpa only [hz18_s0, if_neg hc69_18] using k
              show Steps p.tables e below (T17.setTop (mkF m 69 #[.val (.ref r0), .val (.ref r1), .val (.ref r1)] [(.int (lcmpW w_r0_spentSum w_r1_spentSum))])) _
              refine XS.ifYes X17.here hx rfl (pc0 := 69) (pc' := 76) rfl (hb hby d3_69) rfl ((if0 _ _).trans (feq (mt (lw_eq w_r0_spentSum w_r1_spentSum).mp hc69_18)).2) (by decide) (by decide) ?_
              show Steps p.tables e below (T17.setTop (mkF m 76 #[.val (.ref r0), .val (.ref r1), .val (.ref r1)] [])) _
              refine XS.iconst X17.here hx rfl (hb hby d3_76) ?_
              exact k2
          refine Goes.go sm18 ?_
          show Goes p e below s _ _ _ (T17.setTop (mkF m 77 #[.val (.ref r0), .val (.ref r1), .val (.ref r1)] [(.int z18_s0)]))
          refine Goes.retN .boolean X17 hx hlk Bd.returns (by simp) (hb hby d3_77) ?_ (by decide) (by decide)
          exact ⟨by subst hz18_s0; rfl, N0, e17⟩
        · skip
          refine Goes.qi (if_neg hc57_15) ?_
          refine Goes.go (fun _ k => XS.ifYes X14.here hx rfl (pc0 := 57) (pc' := 76) rfl (hb hby d3_57) rfl ((if0 _ _).trans (feq (mt (lw_eq w_r0_spentCount w_r1_spentCount).mp hc57_15)).2) (by decide) (by decide) k) ?_
          exact J76 X14 e14 N0
      · skip
        refine Goes.qi (if_neg hc45_12) ?_
        refine Goes.go (fun _ k => XS.ifYes X11.here hx rfl (pc0 := 45) (pc' := 76) rfl (hb hby d3_45) rfl ((if0 _ _).trans (feq (mt (lw_eq w_r0_fundedSum w_r1_fundedSum).mp hc45_12)).2) (by decide) (by decide) k) ?_
        exact J76 X11 e11 N0
    · skip
      refine Goes.qi (if_neg hc33_9) ?_
      refine Goes.go (fun _ k => XS.ifYes X8.here hx rfl (pc0 := 33) (pc' := 76) rfl (hb hby d3_33) rfl ((if0 _ _).trans (feq (mt (lw_eq w_r0_fundedCount w_r1_fundedCount).mp hc33_9)).2) (by decide) (by decide) k) ?_
      exact J76 X8 e8 N0
  · skip
    refine Goes.qi (if_neg hc21_6) ?_
    refine Goes.go (fun _ k => XS.ifYes X5.here hx rfl (pc0 := 21) (pc' := 76) rfl (hb hby d3_21) rfl ((if0 _ _).trans (feq (mt (lw_eq w_r0_txCount w_r1_txCount).mp hc21_6)).2) (by decide) (by decide) k) ?_
    exact J76 X5 e5 N0
theorem ef_rm3n (m : MethodId) (x0 : Addr) : entryFrame m #[(.ref x0), .null] 3 = mkF m 0 #[.val (.ref x0), .val .null, .unset] [] := by first | (simp [entryFrame, mkF, argsToLocals, Value.category]; done) | rfl
def f3n (r0 : Addr) : Int32 := (0 : Int32)
set_option maxRecDepth 65536 in
set_option maxHeartbeats 40000000 in
theorem rm3n (l : Launch) (Z : State) (a0 : Array Value) (hw : ∀ d ∈ tables_1, d.before a0 Z = true) (ws : List Jvm.Cond) (r0 : Addr) (h0 : Heap) (n0 : Nat) (Z0 : n0 ≤ h0.size) :
    MetFree l (⟨"com/example/outpoint/outpoint/Totals", "equals", "(Ljava/lang/Object;)Z"⟩ : MethodName) (head1 (Jvm.Cond.code (⟨"com/example/outpoint/outpoint/Totals", "equals", "(Ljava/lang/Object;)Z"⟩ : MethodName) prog_39_method_11_code 3 (some .boolean) :: ws) ({ frames := 0, cells := 0, slots := 0, locals := 0 } : Room)) (fun a U => a = #[(.ref r0), .null] ∧ Z.Warmed39 U.vm ∧ U.heap = h0) (fun _ _ _ _ _ => True) (fun _ U o U' => ∃ v L, o = .returned v ∧ Qp (.int (f3n r0)) h0 n0 v U'.heap L ∧ FrameEnd U o U' L ({ frames := 0, cells := 0, slots := 0, locals := 0 } : Room).cells ({ frames := 0, cells := 0, slots := 0, locals := 0 } : Room).slots) := by
  refine MetFree.of_bodySF (plainFor_of_name pn_3) hisR ?_
  intro p e s m args below meth c s₁ Bd hml0 hP hK
  obtain ⟨rfl, hZ, hh⟩ := hP
  have hx := Bd.exec
  have hby := Bd.bytes
  have hml : c.maxLocals = 3 := hml0
  have hown : s.vm.findClass "com/example/outpoint/outpoint/Totals" = some m.cls := findClass_of_methodNamed Bd.named
  have hnm := (name_of_methodNamed Bd.named Bd.method).1
  have hlk : meth.locks = false := BodyLoose.notSynchronized Bd
  have X0 : Stand p l e ({ frames := 0, cells := 0, slots := 0, locals := 0 } : Room) s m #[(.ref r0), .null] below meth c s₁ [] 0 0 := Stand.of_body Bd
  have e0 : s₁.heap = h0 := by rw [← hh, Bd.state]; rfl
  have N0 := Fr.nil n0
  have K0 : Keep h0 h0 [] := Keep.refl _ _
  show Goes p e below s (Qp (.int (f3n r0)) h0 n0) ({ frames := 0, cells := 0, slots := 0, locals := 0 } : Room).cells ({ frames := 0, cells := 0, slots := 0, locals := 0 } : Room).slots (s₁.setTop (entryFrame m #[(.ref r0), .null] 3))
  rw [ef_rm3n]
  show Goes p e below s _ _ _ (s₁.setTop (mkF m 0 #[.val (.ref r0), .val .null, .unset] []))
  refine Goes.go (fun _ k => XS.aloadN X0.here hx rfl (hb hby d3_0) rfl rfl  k) ?_
  show Goes p e below s _ _ _ (s₁.setTop (mkF m 1 #[.val (.ref r0), .val .null, .unset] [.null]))
  refine Goes.go (X0.instanceofNull hx (g := (mkF m 1 #[.val (.ref r0), .val .null, .unset] [.null])) rfl rfl (hb hby d3_1)) ?_
  show Goes p e below s _ _ _ (s₁.setTop (mkF m 4 #[.val (.ref r0), .val .null, .unset] [(.int (0 : Int32))]))
  have hc4_1 : (0 : Int32) = (0 : Int32) := (by decide)
  refine Goes.go (fun _ k => XS.ifYes X0.here hx rfl (pc0 := 4) (pc' := 76) rfl (hb hby d3_4) rfl ((if0 _ _).trans (teq hc4_1).1) (by decide) (by decide) k) ?_
  show Goes p e below s _ _ _ (s₁.setTop (mkF m 76 #[.val (.ref r0), .val .null, .unset] []))
  refine Goes.go (fun _ k => XS.iconst X0.here hx rfl (hb hby d3_76) k) ?_
  show Goes p e below s _ _ _ (s₁.setTop (mkF m 77 #[.val (.ref r0), .val .null, .unset] [(.int (0 : Int32))]))
  refine Goes.retN .boolean X0 hx hlk Bd.returns (by simp) (hb hby d3_77) ?_ (by decide) (by decide)
  exact ⟨by rfl, N0, e0⟩
theorem ef_rm3o (m : MethodId) (x0 : Addr) (x1 : Addr) : entryFrame m #[(.ref x0), (.ref x1)] 3 = mkF m 0 #[.val (.ref x0), .val (.ref x1), .unset] [] := by first | (simp [entryFrame, mkF, argsToLocals, Value.category]; done) | rfl
def f3o (r0 : Addr) (r1 : Addr) : Int32 := (0 : Int32)
set_option maxRecDepth 65536 in
set_option maxHeartbeats 40000000 in
theorem rm3o (l : Launch) (Z : State) (a0 : Array Value) (hw : ∀ d ∈ tables_1, d.before a0 Z = true) (ws : List Jvm.Cond) (r0 : Addr) (r1 : Addr) (h0 : Heap) (n0 : Nat) (Z0 : n0 ≤ h0.size) (E_r1 : Exa Z h0 r1 "java/lang/String") :
    MetFree l (⟨"com/example/outpoint/outpoint/Totals", "equals", "(Ljava/lang/Object;)Z"⟩ : MethodName) (head1 (Jvm.Cond.code (⟨"com/example/outpoint/outpoint/Totals", "equals", "(Ljava/lang/Object;)Z"⟩ : MethodName) prog_39_method_11_code 3 (some .boolean) :: ws) ({ frames := 0, cells := 0, slots := 0, locals := 0 } : Room)) (fun a U => a = #[(.ref r0), (.ref r1)] ∧ Z.Warmed39 U.vm ∧ U.heap = h0) (fun _ _ _ _ _ => True) (fun _ U o U' => ∃ v L, o = .returned v ∧ Qp (.int (f3o r0 r1)) h0 n0 v U'.heap L ∧ FrameEnd U o U' L ({ frames := 0, cells := 0, slots := 0, locals := 0 } : Room).cells ({ frames := 0, cells := 0, slots := 0, locals := 0 } : Room).slots) := by
  refine MetFree.of_bodySF (plainFor_of_name pn_3) hisR ?_
  intro p e s m args below meth c s₁ Bd hml0 hP hK
  obtain ⟨rfl, hZ, hh⟩ := hP
  have hx := Bd.exec
  have hby := Bd.bytes
  have hml : c.maxLocals = 3 := hml0
  have hown : s.vm.findClass "com/example/outpoint/outpoint/Totals" = some m.cls := findClass_of_methodNamed Bd.named
  have hnm := (name_of_methodNamed Bd.named Bd.method).1
  have hlk : meth.locks = false := BodyLoose.notSynchronized Bd
  have X0 : Stand p l e ({ frames := 0, cells := 0, slots := 0, locals := 0 } : Room) s m #[(.ref r0), (.ref r1)] below meth c s₁ [] 0 0 := Stand.of_body Bd
  have e0 : s₁.heap = h0 := by rw [← hh, Bd.state]; rfl
  have N0 := Fr.nil n0
  have K0 : Keep h0 h0 [] := Keep.refl _ _
  show Goes p e below s (Qp (.int (f3o r0 r1)) h0 n0) ({ frames := 0, cells := 0, slots := 0, locals := 0 } : Room).cells ({ frames := 0, cells := 0, slots := 0, locals := 0 } : Room).slots (s₁.setTop (entryFrame m #[(.ref r0), (.ref r1)] 3))
  rw [ef_rm3o]
  show Goes p e below s _ _ _ (s₁.setTop (mkF m 0 #[.val (.ref r0), .val (.ref r1), .unset] []))
  refine Goes.go (fun _ k => XS.aloadN X0.here hx rfl (hb hby d3_0) rfl rfl  k) ?_
  show Goes p e below s _ _ _ (s₁.setTop (mkF m 1 #[.val (.ref r0), .val (.ref r1), .unset] [(.ref r1)]))
  obtain ⟨T1, X1, e1, st1⟩ := instNo X0 hx hZ hown (hw _ (List.mem_of_getElem? (i := 25) rfl)) e0 E_r1 (own_nsno (hw _ (List.mem_of_getElem? (i := 52) rfl)) (hw _ (List.mem_of_getElem? (i := 2) rfl)) (NS.step (hw _ (List.mem_of_getElem? (i := 52) rfl)) (own_nsroot (hw _ (List.mem_of_getElem? (i := 53) rfl)) (hw _ (List.mem_of_getElem? (i := 2) rfl)) (by decide)) (by decide)) (by decide)) (g := (mkF m 1 #[.val (.ref r0), .val (.ref r1), .unset] [(.ref r1)])) rfl rfl (hb hby d3_1)
  refine Goes.go st1 ?_
  show Goes p e below s _ _ _ (T1.setTop (mkF m 4 #[.val (.ref r0), .val (.ref r1), .unset] [(.int (0 : Int32))]))
  have hc4_2 : (0 : Int32) = (0 : Int32) := (by decide)
  refine Goes.go (fun _ k => XS.ifYes X1.here hx rfl (pc0 := 4) (pc' := 76) rfl (hb hby d3_4) rfl ((if0 _ _).trans (teq hc4_2).1) (by decide) (by decide) k) ?_
  show Goes p e below s _ _ _ (T1.setTop (mkF m 76 #[.val (.ref r0), .val (.ref r1), .unset] []))
  refine Goes.go (fun _ k => XS.iconst X1.here hx rfl (hb hby d3_76) k) ?_
  show Goes p e below s _ _ _ (T1.setTop (mkF m 77 #[.val (.ref r0), .val (.ref r1), .unset] [(.int (0 : Int32))]))
  refine Goes.retN .boolean X1 hx hlk Bd.returns (by simp) (hb hby d3_77) ?_ (by decide) (by decide)
  exact ⟨by rfl, N0, e1⟩
theorem d5_0 : decode jdk_43_method_3_code 0 = .ok (.iload_n 0, 1) := by decide +kernel
theorem d5_1 : decode jdk_43_method_3_code 1 = .ok (.sipush 255, 3) := by decide +kernel
theorem d5_4 : decode jdk_43_method_3_code 4 = .ok (.if_icmp .gt 7, 3) := by decide +kernel
theorem d5_7 : decode jdk_43_method_3_code 7 = .ok (.iconst 1, 1) := by decide +kernel
theorem d5_8 : decode jdk_43_method_3_code 8 = .ok (.goto 4, 3) := by decide +kernel
theorem d5_11 : decode jdk_43_method_3_code 11 = .ok (.iconst 0, 1) := by decide +kernel
theorem d5_12 : decode jdk_43_method_3_code 12 = .ok (.ireturn, 1) := by decide +kernel
theorem pn_5 : plainName "java/lang/StringLatin1" = true := by first | (simp [plainName, overriddenIn]; done) | decide +kernel
theorem ef_rm5 (m : MethodId) (x0 : Int32) : entryFrame m #[(.int x0)] 1 = mkF m 0 #[.val (.int x0)] [] := by first | (simp [entryFrame, mkF, argsToLocals, Value.category]; done) | rfl
def f5 (p0 : Int32) : Int32 := (nar .boolean (if (255 : Int32) < p0 then (0 : Int32) else (1 : Int32)))
set_option maxRecDepth 65536 in
set_option maxHeartbeats 40000000 in
theorem rm5 (l : Launch) (Z : State) (a0 : Array Value) (hw : ∀ d ∈ tables_1, d.before a0 Z = true) (ws : List Jvm.Cond) (p0 : Int32) (h0 : Heap) (n0 : Nat) (Z0 : n0 ≤ h0.size) :
    MetFree l (⟨"java/lang/StringLatin1", "canEncode", "(C)Z"⟩ : MethodName) (head1 (Jvm.Cond.code (⟨"java/lang/StringLatin1", "canEncode", "(C)Z"⟩ : MethodName) jdk_43_method_3_code 1 (some .boolean) :: ws) ({ frames := 0, cells := 0, slots := 0, locals := 0 } : Room)) (fun a U => a = #[(.int p0)] ∧ Z.Warmed39 U.vm ∧ U.heap = h0) (fun _ _ _ _ _ => True) (fun _ U o U' => ∃ v L, o = .returned v ∧ Qp (.int (f5 p0)) h0 n0 v U'.heap L ∧ FrameEnd U o U' L ({ frames := 0, cells := 0, slots := 0, locals := 0 } : Room).cells ({ frames := 0, cells := 0, slots := 0, locals := 0 } : Room).slots) := by
  refine MetFree.of_bodySF (plainFor_of_name pn_5) hisR ?_
  intro p e s m args below meth c s₁ Bd hml0 hP hK
  obtain ⟨rfl, hZ, hh⟩ := hP
  have hx := Bd.exec
  have hby := Bd.bytes
  have hml : c.maxLocals = 1 := hml0
  have hown : s.vm.findClass "java/lang/StringLatin1" = some m.cls := findClass_of_methodNamed Bd.named
  have hnm := (name_of_methodNamed Bd.named Bd.method).1
  have hlk : meth.locks = false := BodyLoose.notSynchronized Bd
  have X0 : Stand p l e ({ frames := 0, cells := 0, slots := 0, locals := 0 } : Room) s m #[(.int p0)] below meth c s₁ [] 0 0 := Stand.of_body Bd
  have e0 : s₁.heap = h0 := by rw [← hh, Bd.state]; rfl
  have N0 := Fr.nil n0
  have K0 : Keep h0 h0 [] := Keep.refl _ _
  show Goes p e below s (Qp (.int (f5 p0)) h0 n0) ({ frames := 0, cells := 0, slots := 0, locals := 0 } : Room).cells ({ frames := 0, cells := 0, slots := 0, locals := 0 } : Room).slots (s₁.setTop (entryFrame m #[(.int p0)] 1))
  rw [ef_rm5]
  show Goes p e below s _ _ _ (s₁.setTop (mkF m 0 #[.val (.int p0)] []))
  refine Goes.go (fun _ k => XS.iloadN X0.here hx rfl (hb hby d5_0) rfl  k) ?_
  show Goes p e below s _ _ _ (s₁.setTop (mkF m 1 #[.val (.int p0)] [(.int p0)]))
  refine Goes.go (fun _ k => XS.sipush X0.here hx rfl (hb hby d5_1) k) ?_
  show Goes p e below s _ _ _ (s₁.setTop (mkF m 4 #[.val (.int p0)] [(.int (255 : Int32)), (.int p0)]))
  obtain ⟨z1_s0, hz1_s0⟩ : ∃ z : Int32, z = if (255 : Int32) < p0 then (0 : Int32) else (1 : Int32) := ⟨_, rfl⟩
  have sm1 : ∀ t, Steps p.tables e below (s₁.setTop (mkF m 12 #[.val (.int p0)] [(.int z1_s0)])) t → Steps p.tables e below (s₁.setTop (mkF m 4 #[.val (.int p0)] [(.int (255 : Int32)), (.int p0)])) t := by
    intro t k
    by_cases hc4_1 : (255 : Int32) < p0
    · have k2 : Steps p.tables e below (s₁.setTop (mkF m 12 #[.val (.int p0)] [(.int (0 : Int32))])) t := by simpa only [hz1_s0, if_pos hc4_1] using k
      show Steps p.tables e below (s₁.setTop (mkF m 4 #[.val (.int p0)] [(.int (255 : Int32)), (.int p0)])) _
      refine XS.icmpYes X0.here hx rfl (pc0 := 4) (pc' := 11) rfl (hb hby d5_4) rfl (tlt hc4_1).2.2.1 (by decide) (by decide) ?_
      show Steps p.tables e below (s₁.setTop (mkF m 11 #[.val (.int p0)] [])) _
      refine XS.iconst X0.here hx rfl (hb hby d5_11) ?_
      exact k2
    · have k2 : Steps p.tables e below (s₁.setTop (mkF m 12 #[.val (.int p0)] [(.int (1 : Int32))])) t := by simpa only [hz1_s0, if_neg hc4_1] using k
      show Steps p.tables e below (s₁.setTop (mkF m 4 #[.val (.int p0)] [(.int (255 : Int32)), (.int p0)])) _
      refine XS.icmpNo X0.here hx rfl (hb hby d5_4) rfl (flt hc4_1).2.2.1 ?_
      show Steps p.tables e below (s₁.setTop (mkF m 7 #[.val (.int p0)] [])) _
      refine XS.iconst X0.here hx rfl (hb hby d5_7) ?_
      show Steps p.tables e below (s₁.setTop (mkF m 8 #[.val (.int p0)] [(.int (1 : Int32))])) _
      refine XS.goto X0.here hx rfl (pc0 := 8) (pc' := 12) rfl (hb hby d5_8) (by decide) (by decide) ?_
      exact k2
  refine Goes.go sm1 ?_
  show Goes p e below s _ _ _ (s₁.setTop (mkF m 12 #[.val (.int p0)] [(.int z1_s0)]))
  refine Goes.retN .boolean X0 hx hlk Bd.returns (by simp) (hb hby d5_12) ?_ (by decide) (by decide)
  exact ⟨by subst hz1_s0; rfl, N0, e0⟩
theorem d6_0 : decode jdk_43_method_46_code 0 = .ok (.iconst 1, 1) := by decide +kernel
theorem d6_1 : decode jdk_43_method_46_code 1 = .ok (.newarray .byte, 2) := by decide +kernel
theorem d6_3 : decode jdk_43_method_46_code 3 = .ok (.dup, 1) := by decide +kernel
theorem d6_4 : decode jdk_43_method_46_code 4 = .ok (.iconst 0, 1) := by decide +kernel
theorem d6_5 : decode jdk_43_method_46_code 5 = .ok (.iload_n 0, 1) := by decide +kernel
theorem d6_6 : decode jdk_43_method_46_code 6 = .ok (.i2b, 1) := by decide +kernel
theorem d6_7 : decode jdk_43_method_46_code 7 = .ok (.bastore, 1) := by decide +kernel
theorem d6_8 : decode jdk_43_method_46_code 8 = .ok (.areturn, 1) := by decide +kernel
theorem pn_6 : plainName "java/lang/StringLatin1" = true := by first | (simp [plainName, overriddenIn]; done) | decide +kernel
theorem ef_rm6 (m : MethodId) (x0 : Int32) : entryFrame m #[(.int x0)] 1 = mkF m 0 #[.val (.int x0)] [] := by first | (simp [entryFrame, mkF, argsToLocals, Value.category]; done) | rfl
def Q_rm6 (Z : State) (p0 : Int32) (h0 : Heap) (n0 : Nat) (v : Option Value) (h : Heap) (L : List Loc) : Prop := ∃ mb : Addr, h0.size ≤ mb ∧ v = some (.ref mb) ∧ Fr n0 L ∧ Keep h0 h [] ∧ True
set_option maxRecDepth 65536 in
set_option maxHeartbeats 40000000 in
theorem rm6 (l : Launch) (Z : State) (a0 : Array Value) (hw : ∀ d ∈ tables_1, d.before a0 Z = true) (ws : List Jvm.Cond) (p0 : Int32) (h0 : Heap) (n0 : Nat) (Z0 : n0 ≤ h0.size) :
    MetFree l (⟨"java/lang/StringLatin1", "toBytes", "(C)[B"⟩ : MethodName) (head1 (Jvm.Cond.code (⟨"java/lang/StringLatin1", "toBytes", "(C)[B"⟩ : MethodName) jdk_43_method_46_code 1 (some (.array .byte)) :: ws) ({ frames := 0, cells := 1, slots := 1, locals := 0 } : Room)) (fun a U => a = #[(.int p0)] ∧ Z.Warmed39 U.vm ∧ U.heap = h0) (fun _ _ _ _ _ => True) (fun _ U o U' => ∃ v L, o = .returned v ∧ Q_rm6 Z p0 h0 n0 v U'.heap L ∧ FrameEnd U o U' L ({ frames := 0, cells := 1, slots := 1, locals := 0 } : Room).cells ({ frames := 0, cells := 1, slots := 1, locals := 0 } : Room).slots) := by
  refine MetFree.of_bodySF (plainFor_of_name pn_6) hisR ?_
  intro p e s m args below meth c s₁ Bd hml0 hP hK
  obtain ⟨rfl, hZ, hh⟩ := hP
  have hx := Bd.exec
  have hby := Bd.bytes
  have hml : c.maxLocals = 1 := hml0
  have hown : s.vm.findClass "java/lang/StringLatin1" = some m.cls := findClass_of_methodNamed Bd.named
  have hnm := (name_of_methodNamed Bd.named Bd.method).1
  have hlk : meth.locks = false := BodyLoose.notSynchronized Bd
  have X0 : Stand p l e ({ frames := 0, cells := 1, slots := 1, locals := 0 } : Room) s m #[(.int p0)] below meth c s₁ [] 0 0 := Stand.of_body Bd
  have e0 : s₁.heap = h0 := by rw [← hh, Bd.state]; rfl
  have N0 := Fr.nil n0
  have K0 : Keep h0 h0 [] := Keep.refl _ _
  show Goes p e below s (Q_rm6 Z p0 h0 n0) ({ frames := 0, cells := 1, slots := 1, locals := 0 } : Room).cells ({ frames := 0, cells := 1, slots := 1, locals := 0 } : Room).slots (s₁.setTop (entryFrame m #[(.int p0)] 1))
  rw [ef_rm6]
  show Goes p e below s _ _ _ (s₁.setTop (mkF m 0 #[.val (.int p0)] []))
  refine Goes.go (fun _ k => XS.iconst X0.here hx rfl (hb hby d6_0) k) ?_
  show Goes p e below s _ _ _ (s₁.setTop (mkF m 1 #[.val (.int p0)] [(.int (1 : Int32))]))
  obtain ⟨T1, h1, X1, e1, E1, A1, EA1, st1⟩ := own_newA X0 hx hZ (hw _ (List.mem_of_getElem? (i := 42) rfl)) e0 (g := (mkF m 1 #[.val (.int p0)] [(.int (1 : Int32))])) rfl (hb hby d6_1) rfl (n := 1) rfl (cap := 1) (Nat.le_refl _) (by decide) (by decide) (by decide) (by decide) (by decide) (by decide : _ = "[B")
  obtain ⟨b1, g1⟩ : ∃ z, z = h0.size := ⟨_, rfl⟩
  rw [← g1] at A1 EA1 st1
  have gb1 : n0 ≤ b1 := Nat.le_trans Z0 (Nat.le_of_eq g1.symm)
  have sb1 : h0.size ≤ b1 := Nat.le_trans K0.1 (Nat.le_of_eq g1.symm)
  have Z1 := Nat.le_trans Z0 E1.1
  have K1 := Keep.ext K0 E1
  refine Goes.go st1 ?_
  show Goes p e below s _ _ _ (T1.setTop (mkF m 3 #[.val (.int p0)] [(.ref b1)]))
  refine Goes.go (fun _ k => XS.dup X1.here hx rfl (hb hby d6_3) rfl rfl k) ?_
  show Goes p e below s _ _ _ (T1.setTop (mkF m 4 #[.val (.int p0)] [(.ref b1), (.ref b1)]))
  refine Goes.go (fun _ k => XS.iconst X1.here hx rfl (hb hby d6_4) k) ?_
  show Goes p e below s _ _ _ (T1.setTop (mkF m 5 #[.val (.int p0)] [(.int (0 : Int32)), (.ref b1), (.ref b1)]))
  refine Goes.go (fun _ k => XS.iloadN X1.here hx rfl (hb hby d6_5) rfl  k) ?_
  show Goes p e below s _ _ _ (T1.setTop (mkF m 6 #[.val (.int p0)] [(.int p0), (.int (0 : Int32)), (.ref b1), (.ref b1)]))
  refine Goes.go (fun _ k => XS.i2b X1.here hx rfl (hb hby d6_6) rfl k) ?_
  show Goes p e below s _ _ _ (T1.setTop (mkF m 7 #[.val (.int p0)] [(.int (p0.toInt8.toInt32)), (.int (0 : Int32)), (.ref b1), (.ref b1)]))
  obtain ⟨T2, h2, X2, e2, W2, A2, st2⟩ := own_stB X1 hx hZ e1 A1 (i := 0) rfl (by decide) (g := (mkF m 7 #[.val (.int p0)] [(.int (p0.toInt8.toInt32)), (.int (0 : Int32)), (.ref b1), (.ref b1)])) rfl rfl (hb hby d6_7)
  have N2 := Fr.snoc X2 N0 gb1
  have Z2 := Nat.le_trans Z1 (Keep.of_wr W2).1
  have K2 := Keep.wr K1 W2 (Or.inr sb1)
  refine Goes.go st2 ?_
  show Goes p e below s _ _ _ (T2.setTop (mkF m 8 #[.val (.int p0)] [(.ref b1)]))
  refine Goes.retA X2 hx hlk rfl Bd.returns rfl (hb hby d6_8) ?_ (by decide) (by decide)
  exact (show Q_rm6 Z p0 h0 n0 _ T2.heap _ by rw [e2]; exact ⟨b1, sb1, rfl, N2, K2, trivial⟩)
theorem d7_0 : decode jdk_42_method_151_code 0 = .ok (.aload_n 0, 1) := by decide +kernel
theorem d7_1 : decode jdk_42_method_151_code 1 = .ok (.invokespecial 1, 3) := by decide +kernel
theorem d7_4 : decode jdk_42_method_151_code 4 = .ok (.aload_n 0, 1) := by decide +kernel
theorem d7_5 : decode jdk_42_method_151_code 5 = .ok (.aload_n 1, 1) := by decide +kernel
theorem d7_6 : decode jdk_42_method_151_code 6 = .ok (.putfield 9, 3) := by decide +kernel
theorem d7_9 : decode jdk_42_method_151_code 9 = .ok (.aload_n 0, 1) := by decide +kernel
theorem d7_10 : decode jdk_42_method_151_code 10 = .ok (.iload_n 2, 1) := by decide +kernel
theorem d7_11 : decode jdk_42_method_151_code 11 = .ok (.putfield 15, 3) := by decide +kernel
theorem d7_14 : decode jdk_42_method_151_code 14 = .ok (.return_, 1) := by decide +kernel
theorem pn_7 : plainName "java/lang/String" = true := by first | (simp [plainName, overriddenIn]; done) | decide +kernel
theorem ef_rm7 (m : MethodId) (x0 : Addr) (x1 : Addr) (x2 : Int32) : entryFrame m #[(.ref x0), (.ref x1), (.int x2)] 3 = mkF m 0 #[.val (.ref x0), .val (.ref x1), .val (.int x2)] [] := by first | (simp [entryFrame, mkF, argsToLocals, Value.category]; done) | rfl
def Q_rm7 (Z : State) (r0 : Addr) (r1 : Addr) (p2 : Int32) (h0 : Heap) (n0 : Nat) (v : Option Value) (h : Heap) (L : List Loc) : Prop := v = none ∧ Fr n0 L ∧ Keep h0 h [r0] ∧ Exa Z h r0 "java/lang/String" ∧ Fld Z h r0 "java/lang/String" "value" "[B" (.ref r1) ∧ Fld Z h r0 "java/lang/String" "coder" "B" (.int (nar .byte p2))
set_option maxRecDepth 65536 in
set_option maxHeartbeats 40000000 in
theorem rm7 (l : Launch) (Z : State) (a0 : Array Value) (hw : ∀ d ∈ tables_1, d.before a0 Z = true) (ws : List Jvm.Cond) (r0 : Addr) (r1 : Addr) (p2 : Int32) (h0 : Heap) (n0 : Nat) (Z0 : n0 ≤ h0.size) (E_r0 : Exa Z h0 r0 "java/lang/String") (g_r0 : n0 ≤ r0) (F_r0_value : Fld Z h0 r0 "java/lang/String" "value" "[B" .null) (F_r0_coder : Fld Z h0 r0 "java/lang/String" "coder" "B" (.int (0 : Int32))) :
    MetFree l (⟨"java/lang/String", "<init>", "([BB)V"⟩ : MethodName) (head1 (Jvm.Cond.code (⟨"java/lang/String", "<init>", "([BB)V"⟩ : MethodName) jdk_42_method_151_code 3 none :: ws) ({ frames := 1, cells := 0, slots := 0, locals := 12 } : Room)) (fun a U => a = #[(.ref r0), (.ref r1), (.int p2)] ∧ Z.Warmed39 U.vm ∧ U.heap = h0) (fun _ _ _ _ _ => True) (fun _ U o U' => ∃ v L, o = .returned v ∧ Q_rm7 Z r0 r1 p2 h0 n0 v U'.heap L ∧ FrameEnd U o U' L ({ frames := 1, cells := 0, slots := 0, locals := 12 } : Room).cells ({ frames := 1, cells := 0, slots := 0, locals := 12 } : Room).slots) := by
  refine MetFree.of_bodySF (plainFor_of_name pn_7) hisR ?_
  intro p e s m args below meth c s₁ Bd hml0 hP hK
  obtain ⟨rfl, hZ, hh⟩ := hP
  have hx := Bd.exec
  have hby := Bd.bytes
  have hml : c.maxLocals = 3 := hml0
  have hown : s.vm.findClass "java/lang/String" = some m.cls := findClass_of_methodNamed Bd.named
  have hnm := (name_of_methodNamed Bd.named Bd.method).1
  have hlk : meth.locks = false := BodyLoose.notSynchronized Bd
  have X0 : Stand p l e ({ frames := 1, cells := 0, slots := 0, locals := 12 } : Room) s m #[(.ref r0), (.ref r1), (.int p2)] below meth c s₁ [] 0 0 := Stand.of_body Bd
  have e0 : s₁.heap = h0 := by rw [← hh, Bd.state]; rfl
  have N0 := Fr.nil n0
  have K0 : Keep h0 h0 [r0] := Keep.refl _ _
  show Goes p e below s (Q_rm7 Z r0 r1 p2 h0 n0) ({ frames := 1, cells := 0, slots := 0, locals := 12 } : Room).cells ({ frames := 1, cells := 0, slots := 0, locals := 12 } : Room).slots (s₁.setTop (entryFrame m #[(.ref r0), (.ref r1), (.int p2)] 3))
  rw [ef_rm7]
  show Goes p e below s _ _ _ (s₁.setTop (mkF m 0 #[.val (.ref r0), .val (.ref r1), .val (.int p2)] []))
  refine Goes.go (fun _ k => XS.aloadN X0.here hx rfl (hb hby d7_0) rfl rfl  k) ?_
  show Goes p e below s _ _ _ (s₁.setTop (mkF m 1 #[.val (.ref r0), .val (.ref r1), .val (.int p2)] [(.ref r0)]))
  obtain ⟨T1, X1, e1, st1⟩ := initO X0 hx hZ hown (hw _ (List.mem_of_getElem? (i := 47) rfl)) (hw _ (List.mem_of_getElem? (i := 8) rfl)) (hw _ (List.mem_of_getElem? (i := 9) rfl)) e0 (g := (mkF m 1 #[.val (.ref r0), .val (.ref r1), .val (.int p2)] [(.ref r0)])) rfl (by rw [hml]; rfl) rfl (hb hby d7_1) (by decide) (W := 0) (by show 2 * 0 + _ ≤ _; exact Nat.le_of_eq rfl) (by decide)
  refine Goes.go st1 ?_
  show Goes p e below s _ _ _ (T1.setTop (mkF m 4 #[.val (.ref r0), .val (.ref r1), .val (.int p2)] []))
  refine Goes.go (fun _ k => XS.aloadN X1.here hx rfl (hb hby d7_4) rfl rfl  k) ?_
  show Goes p e below s _ _ _ (T1.setTop (mkF m 5 #[.val (.ref r0), .val (.ref r1), .val (.int p2)] [(.ref r0)]))
  refine Goes.go (fun _ k => XS.aloadN X1.here hx rfl (hb hby d7_5) rfl rfl  k) ?_
  show Goes p e below s _ _ _ (T1.setTop (mkF m 6 #[.val (.ref r0), .val (.ref r1), .val (.int p2)] [(.ref r1), (.ref r0)]))
  obtain ⟨T2, h2, X2, e2, W2, st2⟩ := putF X1 hx hZ hown (host := "") (Or.inl (hw _ (List.mem_of_getElem? (i := 48) rfl))) Via.refl e1 F_r0_value E_r0 (Or.inr ⟨(hw _ (List.mem_of_getElem? (i := 49) rfl)), rfl, hnm⟩) (hw _ (List.mem_of_getElem? (i := 38) rfl)) (ty := (.array .byte)) (by decide) rfl rfl (g := (mkF m 6 #[.val (.ref r0), .val (.ref r1), .val (.int p2)] [(.ref r1), (.ref r0)])) rfl rfl (hb hby d7_6)
  have Fw2 := F_r0_value.same W2
  have N2 := Fr.snoc X2 N0 g_r0
  have Z2 := Nat.le_trans Z0 (Keep.of_wr W2).1
  have K2 := Keep.wr K0 W2 (Or.inl (List.mem_of_getElem? (i := 0) rfl))
  refine Goes.go st2 ?_
  show Goes p e below s _ _ _ (T2.setTop (mkF m 9 #[.val (.ref r0), .val (.ref r1), .val (.int p2)] []))
  refine Goes.go (fun _ k => XS.aloadN X2.here hx rfl (hb hby d7_9) rfl rfl  k) ?_
  show Goes p e below s _ _ _ (T2.setTop (mkF m 10 #[.val (.ref r0), .val (.ref r1), .val (.int p2)] [(.ref r0)]))
  refine Goes.go (fun _ k => XS.iloadN X2.here hx rfl (hb hby d7_10) rfl  k) ?_
  show Goes p e below s _ _ _ (T2.setTop (mkF m 11 #[.val (.ref r0), .val (.ref r1), .val (.int p2)] [(.int p2), (.ref r0)]))
  obtain ⟨T3, h3, X3, e3, W3, st3⟩ := putFN X2 hx hZ hown (hw _ (List.mem_of_getElem? (i := 50) rfl)) Via.refl e2 (F_r0_coder.other W2 (Or.inr (slot_ne (Or.inr (hw _ (List.mem_of_getElem? (i := 51) rfl))) (Or.inr (hw _ (List.mem_of_getElem? (i := 49) rfl))) (by decide) (t := .byte) (t' := (.array .byte)) (by decide) (by decide)))) (E_r0.wr W2) (Or.inr ⟨(hw _ (List.mem_of_getElem? (i := 51) rfl)), rfl, hnm⟩) (hw _ (List.mem_of_getElem? (i := 38) rfl)) (ty := .byte) (v' := (.int (nar .byte p2))) (by decide) rfl (fits_nar_byte _) (g := (mkF m 11 #[.val (.ref r0), .val (.ref r1), .val (.int p2)] [(.int p2), (.ref r0)])) rfl rfl (hb hby d7_11)
  have Fw3 := (F_r0_coder.other W2 (Or.inr (slot_ne (Or.inr (hw _ (List.mem_of_getElem? (i := 51) rfl))) (Or.inr (hw _ (List.mem_of_getElem? (i := 49) rfl))) (by decide) (t := .byte) (t' := (.array .byte)) (by decide) (by decide)))).same W3
  have N3 := Fr.snoc X3 N2 g_r0
  have Z3 := Nat.le_trans Z2 (Keep.of_wr W3).1
  have K3 := Keep.wr K2 W3 (Or.inl (List.mem_of_getElem? (i := 0) rfl))
  refine Goes.go st3 ?_
  show Goes p e below s _ _ _ (T3.setTop (mkF m 14 #[.val (.ref r0), .val (.ref r1), .val (.int p2)] []))
  refine Goes.ret0 X3 hx hlk Bd.returns (hb hby d7_14) ?_ (by decide) (by decide)
  exact (show Q_rm7 Z r0 r1 p2 h0 n0 _ T3.heap _ by rw [e3]; exact ⟨rfl, N3, K3, ((E_r0.wr W2).wr W3), (Fw2.other W3 (Or.inr (slot_ne (Or.inr (hw _ (List.mem_of_getElem? (i := 49) rfl))) (Or.inr (hw _ (List.mem_of_getElem? (i := 51) rfl))) (by decide) (t := (.array .byte)) (t' := .byte) (by decide) (by decide)))), Fw3⟩)
theorem own_enc {x : Int32} (h : ¬ (255 : Int32) < x) : ¬ (f5 x = (0 : Int32)) := by
  unfold f5
  rw [if_neg h]
  decide
theorem own_tab : ∀ n : Fin 256, ¬ (255 : Int32) < (Int32.ofNat n.val).toUInt32.toUInt16.toUInt32.toInt32 := by decide +kernel
theorem own_chr (q : Int64) : ¬ (255 : Int32) < ((q &&& (255 : Int64)).toInt32).toUInt32.toUInt16.toUInt32.toInt32 := by
  have h := Jvm.Kit.i64_mask q 255 (k := 8) (by decide) (by decide)
  have h1 := Int.emod_nonneg q.toInt (show (2 : Int) ^ 8 ≠ 0 by decide)
  have h2 := Int.emod_lt_of_pos q.toInt (show (0 : Int) < 2 ^ 8 by decide)
  have e0 : (q &&& (255 : Int64)).toInt32.toInt = (q &&& (255 : Int64)).toInt := Jvm.Kit.i32_of_i64 (by rw [h]; omega) (by rw [h]; omega)
  obtain ⟨n, hn⟩ : ∃ n : Nat, q.toInt % 2 ^ 8 = n := ⟨(q.toInt % 2 ^ 8).toNat, by omega⟩
  have hn2 : n < 256 := by omega
  have e : (q &&& (255 : Int64)).toInt32 = Int32.ofNat n := own_eqNat (by rw [e0, h, hn])
  rw [e]
  exact own_tab ⟨n, hn2⟩
theorem d4_0 : decode jdk_42_method_139_code 0 = .ok (.getstatic 38, 3) := by decide +kernel
theorem d4_3 : decode jdk_42_method_139_code 3 = .ok (.ifCond .eq 23, 3) := by decide +kernel
theorem d4_6 : decode jdk_42_method_139_code 6 = .ok (.iload_n 0, 1) := by decide +kernel
theorem d4_7 : decode jdk_42_method_139_code 7 = .ok (.invokestatic 1015, 3) := by decide +kernel
theorem d4_10 : decode jdk_42_method_139_code 10 = .ok (.ifCond .eq 16, 3) := by decide +kernel
theorem d4_13 : decode jdk_42_method_139_code 13 = .ok (.new 10, 3) := by decide +kernel
theorem d4_16 : decode jdk_42_method_139_code 16 = .ok (.dup, 1) := by decide +kernel
theorem d4_17 : decode jdk_42_method_139_code 17 = .ok (.iload_n 0, 1) := by decide +kernel
theorem d4_18 : decode jdk_42_method_139_code 18 = .ok (.invokestatic 1018, 3) := by decide +kernel
theorem d4_21 : decode jdk_42_method_139_code 21 = .ok (.iconst 0, 1) := by decide +kernel
theorem d4_22 : decode jdk_42_method_139_code 22 = .ok (.invokespecial 209, 3) := by decide +kernel
theorem d4_25 : decode jdk_42_method_139_code 25 = .ok (.areturn, 1) := by decide +kernel
theorem pn_4 : plainName "java/lang/String" = true := by first | (simp [plainName, overriddenIn]; done) | decide +kernel
theorem ef_rm4 (m : MethodId) (x0 : Int32) : entryFrame m #[(.int x0)] 1 = mkF m 0 #[.val (.int x0)] [] := by first | (simp [entryFrame, mkF, argsToLocals, Value.category]; done) | rfl
def Q_rm4 (Z : State) (p0 : Int32) (ccs : Int32) (h0 : Heap) (n0 : Nat) (v : Option Value) (h : Heap) (L : List Loc) : Prop := ∃ ms : Addr, h0.size ≤ ms ∧ v = some (.ref ms) ∧ Fr n0 L ∧ Keep h0 h [] ∧ Exa Z h ms "java/lang/String"
set_option maxRecDepth 65536 in
set_option maxHeartbeats 40000000 in
theorem rm4 (l : Launch) (Z : State) (a0 : Array Value) (hw : ∀ d ∈ tables_1, d.before a0 Z = true) (ws : List Jvm.Cond) (p0 : Int32) (ccs : Int32) (h0 : Heap) (n0 : Nat) (Z0 : n0 ≤ h0.size) (S_COMPACT_STRINGS : Sta Z h0 "java/lang/String" "COMPACT_STRINGS" "Z" (.int ccs)) (hcs : ¬ (ccs = (0 : Int32))) (hp : ¬ ((255 : Int32) < p0)) :
    MetFree l (⟨"java/lang/String", "valueOf", "(C)Ljava/lang/String;"⟩ : MethodName) (head1 (Jvm.Cond.code (⟨"java/lang/String", "valueOf", "(C)Ljava/lang/String;"⟩ : MethodName) jdk_42_method_139_code 1 (some (.object "java/lang/String")) :: ws) ({ frames := 2, cells := 2, slots := 5, locals := 27 } : Room)) (fun a U => a = #[(.int p0)] ∧ Z.Warmed39 U.vm ∧ U.heap = h0) (fun _ _ _ _ _ => True) (fun _ U o U' => ∃ v L, o = .returned v ∧ Q_rm4 Z p0 ccs h0 n0 v U'.heap L ∧ FrameEnd U o U' L ({ frames := 2, cells := 2, slots := 5, locals := 27 } : Room).cells ({ frames := 2, cells := 2, slots := 5, locals := 27 } : Room).slots) := by
  refine MetFree.of_bodySF (plainFor_of_name pn_4) hisR ?_
  intro p e s m args below meth c s₁ Bd hml0 hP hK
  obtain ⟨rfl, hZ, hh⟩ := hP
  have hx := Bd.exec
  have hby := Bd.bytes
  have hml : c.maxLocals = 1 := hml0
  have hown : s.vm.findClass "java/lang/String" = some m.cls := findClass_of_methodNamed Bd.named
  have hnm := (name_of_methodNamed Bd.named Bd.method).1
  have hlk : meth.locks = false := BodyLoose.notSynchronized Bd
  have X0 : Stand p l e ({ frames := 2, cells := 2, slots := 5, locals := 27 } : Room) s m #[(.int p0)] below meth c s₁ [] 0 0 := Stand.of_body Bd
  have e0 : s₁.heap = h0 := by rw [← hh, Bd.state]; rfl
  have N0 := Fr.nil n0
  have K0 : Keep h0 h0 [] := Keep.refl _ _
  show Goes p e below s (Q_rm4 Z p0 ccs h0 n0) ({ frames := 2, cells := 2, slots := 5, locals := 27 } : Room).cells ({ frames := 2, cells := 2, slots := 5, locals := 27 } : Room).slots (s₁.setTop (entryFrame m #[(.int p0)] 1))
  rw [ef_rm4]
  show Goes p e below s _ _ _ (s₁.setTop (mkF m 0 #[.val (.int p0)] []))
  obtain ⟨T1, X1, e1, st1⟩ := getS2 X0 hx hZ hown (host := "") (Or.inl (hw _ (List.mem_of_getElem? (i := 32) rfl))) Via.refl e0 S_COMPACT_STRINGS (g := (mkF m 0 #[.val (.int p0)] [])) rfl (hb hby d4_0)
  refine Goes.go st1 ?_
  show Goes p e below s _ _ _ (T1.setTop (mkF m 3 #[.val (.int p0)] [(.int ccs)]))
  have hc3_2 : ¬ (ccs = (0 : Int32)) := hcs
  refine Goes.go (fun _ k => XS.ifNo X1.here hx rfl (hb hby d4_3) rfl ((if0 _ _).trans (feq hc3_2).1) k) ?_
  show Goes p e below s _ _ _ (T1.setTop (mkF m 6 #[.val (.int p0)] []))
  refine Goes.go (fun _ k => XS.iloadN X1.here hx rfl (hb hby d4_6) rfl  k) ?_
  show Goes p e below s _ _ _ (T1.setTop (mkF m 7 #[.val (.int p0)] [(.int p0)]))
  obtain ⟨_, _, ⟨T3, L3, k3, n3⟩, -, X3, ⟨Lc3, hQ3, l3, y3, z3⟩, st3⟩ := Jvm.LawKit.callS X1 hx (y := (⟨"java/lang/StringLatin1", "canEncode", "(C)Z"⟩ : MethodName)) hown (mvT hZ (hw _ (List.mem_of_getElem? (i := 33) rfl))) (mvT hZ (hw _ (List.mem_of_getElem? (i := 34) rfl))) (mvT hZ (hw _ (List.mem_of_getElem? (i := 35) rfl))) (mvT hZ (hw _ (List.mem_of_getElem? (i := 36) rfl))) (by decide) (backOf (W := 0) (rm5 l Z a0 hw [] p0 h0 n0 Z0 ) hZ (hw _ (List.mem_of_getElem? (i := 36) rfl)) (hw _ (List.mem_of_getElem? (i := 35) rfl)) (by decide) (by decide)) (g := (mkF m 7 #[.val (.int p0)] [(.int p0)])) rfl (by rw [hml]; rfl) (argsL := [(.int p0)]) (rest := []) (lenOf pd_0 rfl) rfl (by show 2 * 0 + _ ≤ _; exact Nat.le_of_eq rfl) (hb hby d4_7) (fun _ _ => ⟨rfl, e1, (by decide : 0 + 0 ≤ _), (by decide : 0 + 0 ≤ _)⟩)
  dsimp only [Pt.U, Pt.locs, Pt.cells, Pt.slots] at X3 l3 y3 z3 st3 hQ3
  subst l3 y3 z3
  obtain ⟨rfl, N3q, e3⟩ := hQ3
  have N3 := Fr.app N0 N3q
  refine Goes.go st3 ?_
  show Goes p e below s _ _ _ (T3.setTop (mkF m 10 #[.val (.int p0)] [(.int (f5 p0))]))
  have hc10_4 : ¬ ((f5 p0) = (0 : Int32)) := own_enc hp
  refine Goes.go (fun _ k => XS.ifNo X3.here hx rfl (hb hby d4_10) rfl ((if0 _ _).trans (feq hc10_4).1) k) ?_
  show Goes p e below s _ _ _ (T3.setTop (mkF m 13 #[.val (.int p0)] []))
  obtain ⟨T5, h5, X5, e5, E5, A5, D5, -, st5⟩ := newO X3 hx hZ hown (hw _ (List.mem_of_getElem? (i := 37) rfl)) (hw _ (List.mem_of_getElem? (i := 38) rfl)) (hw _ (List.mem_of_getElem? (i := 30) rfl)) e3 (g := (mkF m 13 #[.val (.int p0)] [])) rfl (hb hby d4_13) (by decide) (by decide)
  obtain ⟨b5, g5⟩ : ∃ z, z = h0.size := ⟨_, rfl⟩
  rw [← g5] at A5 D5 st5
  have gb5 : n0 ≤ b5 := Nat.le_trans Z0 (Nat.le_of_eq g5.symm)
  have sb5 : h0.size ≤ b5 := Nat.le_trans K0.1 (Nat.le_of_eq g5.symm)
  have Z5 := Nat.le_trans Z0 E5.1
  have K5 := Keep.ext K0 E5
  have F5_value : Fld Z h5 b5 "java/lang/String" "value" "[B" .null := D5 (Or.inr (hw _ (List.mem_of_getElem? (i := 49) rfl))) (ty := (.array .byte)) (by decide)
  have F5_coder : Fld Z h5 b5 "java/lang/String" "coder" "B" (.int (0 : Int32)) := D5 (Or.inr (hw _ (List.mem_of_getElem? (i := 51) rfl))) (ty := .byte) (by decide)
  refine Goes.go st5 ?_
  show Goes p e below s _ _ _ (T5.setTop (mkF m 16 #[.val (.int p0)] [(.ref b5)]))
  refine Goes.go (fun _ k => XS.dup X5.here hx rfl (hb hby d4_16) rfl rfl k) ?_
  show Goes p e below s _ _ _ (T5.setTop (mkF m 17 #[.val (.int p0)] [(.ref b5), (.ref b5)]))
  refine Goes.go (fun _ k => XS.iloadN X5.here hx rfl (hb hby d4_17) rfl  k) ?_
  show Goes p e below s _ _ _ (T5.setTop (mkF m 18 #[.val (.int p0)] [(.int p0), (.ref b5), (.ref b5)]))
  obtain ⟨_, _, ⟨T6, L6, k6, n6⟩, -, X6, ⟨Lc6, hQ6, l6, y6, z6⟩, st6⟩ := Jvm.LawKit.callS X5 hx (y := (⟨"java/lang/StringLatin1", "toBytes", "(C)[B"⟩ : MethodName)) hown (mvT hZ (hw _ (List.mem_of_getElem? (i := 39) rfl))) (mvT hZ (hw _ (List.mem_of_getElem? (i := 40) rfl))) (mvT hZ (hw _ (List.mem_of_getElem? (i := 35) rfl))) (mvT hZ (hw _ (List.mem_of_getElem? (i := 41) rfl))) (by decide) (backOf (W := 2) (rm6 l Z a0 hw [] p0 h5 n0 Z5 ) hZ (hw _ (List.mem_of_getElem? (i := 41) rfl)) (hw _ (List.mem_of_getElem? (i := 35) rfl)) (by decide) (by decide)) (g := (mkF m 18 #[.val (.int p0)] [(.int p0), (.ref b5), (.ref b5)])) rfl (by rw [hml]; rfl) (argsL := [(.int p0)]) (rest := [(.ref b5), (.ref b5)]) (lenOf pd_1 rfl) rfl (by show 2 * 0 + _ ≤ _; exact Nat.le_of_eq rfl) (hb hby d4_18) (fun _ _ => ⟨rfl, e5, (by decide : 1 + 1 ≤ _), (by decide : 4 + 1 ≤ _)⟩)
  dsimp only [Pt.U, Pt.locs, Pt.cells, Pt.slots] at X6 l6 y6 z6 st6 hQ6
  subst l6 y6 z6
  obtain ⟨h6, e6⟩ : ∃ z, T6.heap = z := ⟨_, rfl⟩
  rw [e6] at hQ6
  obtain ⟨c6_mb, sb_c6_mb, rfl, N6q, Kq6, -⟩ := hQ6
  have N6 := Fr.app N3 N6q
  have gb_c6_mb : n0 ≤ c6_mb := Nat.le_trans Z5 sb_c6_mb
  have sh_c6_mb : h0.size ≤ c6_mb := Nat.le_trans K5.1 sb_c6_mb
  have K6 := Keep.trans K5 Kq6 all0
  have Z6 := Nat.le_trans Z5 Kq6.1
  refine Goes.go st6 ?_
  show Goes p e below s _ _ _ (T6.setTop (mkF m 21 #[.val (.int p0)] [(.ref c6_mb), (.ref b5), (.ref b5)]))
  refine Goes.go (fun _ k => XS.iconst X6.here hx rfl (hb hby d4_21) k) ?_
  show Goes p e below s _ _ _ (T6.setTop (mkF m 22 #[.val (.int p0)] [(.int (0 : Int32)), (.ref c6_mb), (.ref b5), (.ref b5)]))
  obtain ⟨_, _, ⟨T7, L7, k7, n7⟩, -, X7, ⟨Lc7, hQ7, l7, y7, z7⟩, st7⟩ := X6.specialBack hx (y := (⟨"java/lang/String", "<init>", "([BB)V"⟩ : MethodName)) rfl hown (mvT hZ (hw _ (List.mem_of_getElem? (i := 43) rfl))) (mvT hZ (hw _ (List.mem_of_getElem? (i := 44) rfl))) (mvT hZ (hw _ (List.mem_of_getElem? (i := 46) rfl))) (by decide) (backOf (W := 1) (rm7 l Z a0 hw [] b5 c6_mb (0 : Int32) h6 n0 Z6 (A5.keep Kq6) gb5 (F5_value.keep Kq6 nin0) (F5_coder.keep Kq6 nin0)) hZ (hw _ (List.mem_of_getElem? (i := 46) rfl)) (hw _ (List.mem_of_getElem? (i := 30) rfl)) (by decide) (by decide)) (g := (mkF m 22 #[.val (.int p0)] [(.int (0 : Int32)), (.ref c6_mb), (.ref b5), (.ref b5)])) rfl (by rw [hml]; rfl) (Steps.refl _) (a := b5) (argsL := [(.ref c6_mb), (.int (0 : Int32))]) (rest := [(.ref b5)]) (lenOf pd_2 rfl) rfl (by show 2 * 0 + _ ≤ _; exact Nat.le_of_eq rfl) (hb hby d4_22) (fun _ _ => ⟨rfl, e6, (by decide : 2 + 0 ≤ _), (by decide : 5 + 0 ≤ _)⟩)
  dsimp only [Pt.U, Pt.locs, Pt.cells, Pt.slots] at X7 l7 y7 z7 st7 hQ7
  subst l7 y7 z7
  obtain ⟨h7, e7⟩ : ∃ z, T7.heap = z := ⟨_, rfl⟩
  rw [e7] at hQ7
  obtain ⟨rfl, N7q, Kq7, G7_0, G7_1, G7_2⟩ := hQ7
  have N7 := Fr.app N6 N7q
  have K7 := Keep.trans K6 Kq7 (allS (Or.inr sb5) all0)
  have Z7 := Nat.le_trans Z6 Kq7.1
  refine Goes.tr st7 ?_
  show Goes p e below s _ _ _ (T7.setTop (mkF m 25 #[.val (.int p0)] [(.ref b5)]))
  refine Goes.retA X7 hx hlk rfl Bd.returns rfl (hb hby d4_25) ?_ (by decide) (by decide)
  exact (show Q_rm4 Z p0 ccs h0 n0 _ T7.heap _ by rw [e7]; exact ⟨b5, sb5, rfl, N7, K7, G7_0⟩)
theorem own_f3 (r r' : Addr) (a b d e f a' b' d' e' f' : Int64) : f3 r r' a b d e f a' b' d' e' f' = (if a = a' then (if b = b' then (if d = d' then (if e = e' then (if f = f' then (1 : Int32) else (0 : Int32)) else (0 : Int32)) else (0 : Int32)) else (0 : Int32)) else (0 : Int32)) := by
  unfold f3 f3_76
  by_cases h1 : a = a' <;> by_cases h2 : b = b' <;> by_cases h3 : d = d' <;> by_cases h4 : e = e' <;> by_cases h5 : f = f' <;> simp [h1, h2, h3, h4, h5, nar]
theorem own_f3s (r r' : Addr) (a b d e f a' b' d' e' f' : Int64) : f3 r r' a' b' d' e' f' a b d e f = (if a = a' then (if b = b' then (if d = d' then (if e = e' then (if f = f' then (1 : Int32) else (0 : Int32)) else (0 : Int32)) else (0 : Int32)) else (0 : Int32)) else (0 : Int32)) := by
  rw [own_f3]
  simp only [@eq_comm _ a' a, @eq_comm _ b' b, @eq_comm _ d' d, @eq_comm _ e' e, @eq_comm _ f' f]
theorem own_self (r r' : Addr) (a b d e f : Int64) : ¬ (f3 r r' a b d e f a b d e f = (0 : Int32)) := by
  rw [own_f3]; simp
theorem pn_0 : plainName "com/example/outpoint/outpoint/TotalsEqualsPinLaw" = true := by first | (simp [plainName, overriddenIn]; done) | decide +kernel
theorem ef_rm0 (m : MethodId) (x0 : Int64) (x1 : Int64) (x2 : Int64) (x3 : Int64) (x4 : Int64) (x5 : Int64) : entryFrame m #[(.long x0), (.long x1), (.long x2), (.long x3), (.long x4), (.long x5)] maxLocals = mkF m 0 #[.val (.long x0), .second, .val (.long x1), .second, .val (.long x2), .second, .val (.long x3), .second, .val (.long x4), .second, .val (.long x5), .second, .unset, .unset, .unset, .unset, .unset, .unset, .unset, .unset, .unset, .unset, .unset, .unset, .unset, .unset] [] := by first | (simp [entryFrame, mkF, argsToLocals, Value.category, maxLocals]; done) | rfl
def Q0 (n0 : Nat) (v : Option Value) (h : Heap) (L : List Loc) : Prop := v = some (.int 1) ∧ Fr n0 L
set_option maxRecDepth 65536 in
set_option maxHeartbeats 40000000 in
theorem rm0 (l : Launch) (Z : State) (a0 : Array Value) (hw : ∀ d ∈ tables_1, d.before a0 Z = true) (ws : List Jvm.Cond) (q0 : Int64) (q1 : Int64) (q2 : Int64) (q3 : Int64) (q4 : Int64) (q5 : Int64) (ccs : Int32) (h0 : Heap) (n0 : Nat) (Z0 : n0 ≤ h0.size) (S_COMPACT_STRINGS : Sta Z h0 "java/lang/String" "COMPACT_STRINGS" "Z" (.int ccs)) (hcs : ¬ (ccs = (0 : Int32))) :
    MetFree l x (head1 (Jvm.Cond.code x code maxLocals ret :: ws) room_1) (fun a U => a = #[(.long q0), (.long q1), (.long q2), (.long q3), (.long q4), (.long q5)] ∧ Z.Warmed39 U.vm ∧ U.heap = h0) (fun _ _ _ _ _ => True) (fun _ U o U' => ∃ v L, o = .returned v ∧ Q0 n0 v U'.heap L ∧ FrameEnd U o U' L room_1.cells room_1.slots) := by
  refine MetFree.of_bodySF (plainFor_of_name pn_0) hisR ?_
  intro p e s m args below meth c s₁ Bd hml0 hP hK
  obtain ⟨rfl, hZ, hh⟩ := hP
  have hx := Bd.exec
  have hby := Bd.bytes
  have hml : c.maxLocals = 26 := hml0
  have hown : s.vm.findClass "com/example/outpoint/outpoint/TotalsEqualsPinLaw" = some m.cls := findClass_of_methodNamed Bd.named
  have hnm := (name_of_methodNamed Bd.named Bd.method).1
  have hlk : meth.locks = false := BodyLoose.notSynchronized Bd
  have X0 : Stand p l e room_1 s m #[(.long q0), (.long q1), (.long q2), (.long q3), (.long q4), (.long q5)] below meth c s₁ [] 0 0 := Stand.of_body Bd
  have e0 : s₁.heap = h0 := by rw [← hh, Bd.state]; rfl
  have N0 := Fr.nil n0
  have K0 : Keep h0 h0 [] := Keep.refl _ _
  show Goes p e below s (Q0 n0) room_1.cells room_1.slots (s₁.setTop (entryFrame m #[(.long q0), (.long q1), (.long q2), (.long q3), (.long q4), (.long q5)] maxLocals))
  rw [ef_rm0]
  show Goes p e below s _ _ _ (s₁.setTop (mkF m 0 #[.val (.long q0), .second, .val (.long q1), .second, .val (.long q2), .second, .val (.long q3), .second, .val (.long q4), .second, .val (.long q5), .second, .unset, .unset, .unset, .unset, .unset, .unset, .unset, .unset, .unset, .unset, .unset, .unset, .unset, .unset] []))
  refine Goes.go (fun _ k => XS.lload X0.here hx rfl (hb hby at_0) rfl  k) ?_
  show Goes p e below s _ _ _ (s₁.setTop (mkF m 2 #[.val (.long q0), .second, .val (.long q1), .second, .val (.long q2), .second, .val (.long q3), .second, .val (.long q4), .second, .val (.long q5), .second, .unset, .unset, .unset, .unset, .unset, .unset, .unset, .unset, .unset, .unset, .unset, .unset, .unset, .unset] [(.long q5)]))
  refine Goes.go (fun _ k => X0.ldc2Long hx hown (mvT hZ (hw _ (List.mem_of_getElem? (i := 0) rfl))) (g := (mkF m 2 #[.val (.long q0), .second, .val (.long q1), .second, .val (.long q2), .second, .val (.long q3), .second, .val (.long q4), .second, .val (.long q5), .second, .unset, .unset, .unset, .unset, .unset, .unset, .unset, .unset, .unset, .unset, .unset, .unset, .unset, .unset] [(.long q5)])) rfl (hb hby at_2) _ k) ?_
  show Goes p e below s _ _ _ (s₁.setTop (mkF m 5 #[.val (.long q0), .second, .val (.long q1), .second, .val (.long q2), .second, .val (.long q3), .second, .val (.long q4), .second, .val (.long q5), .second, .unset, .unset, .unset, .unset, .unset, .unset, .unset, .unset, .unset, .unset, .unset, .unset, .unset, .unset] [(.long (7 : Int64)), (.long q5)]))
  refine Goes.go (fun _ k => XS.land X0.here hx rfl (hb hby at_5) rfl k) ?_
  show Goes p e below s _ _ _ (s₁.setTop (mkF m 6 #[.val (.long q0), .second, .val (.long q1), .second, .val (.long q2), .second, .val (.long q3), .second, .val (.long q4), .second, .val (.long q5), .second, .unset, .unset, .unset, .unset, .unset, .unset, .unset, .unset, .unset, .unset, .unset, .unset, .unset, .unset] [(.long (q5 &&& (7 : Int64)))]))
  refine Goes.go (fun _ k => XS.l2i X0.here hx rfl (hb hby at_6) rfl k) ?_
  show Goes p e below s _ _ _ (s₁.setTop (mkF m 7 #[.val (.long q0), .second, .val (.long q1), .second, .val (.long q2), .second, .val (.long q3), .second, .val (.long q4), .second, .val (.long q5), .second, .unset, .unset, .unset, .unset, .unset, .unset, .unset, .unset, .unset, .unset, .unset, .unset, .unset, .unset] [(.int ((q5 &&& (7 : Int64)).toInt32))]))
  refine Goes.go (fun _ k => XS.istore X0.here hx rfl (hb hby at_7) rfl (l' := #[.val (.long q0), .second, .val (.long q1), .second, .val (.long q2), .second, .val (.long q3), .second, .val (.long q4), .second, .val (.long q5), .second, .val (.int ((q5 &&& (7 : Int64)).toInt32)), .unset, .unset, .unset, .unset, .unset, .unset, .unset, .unset, .unset, .unset, .unset, .unset, .unset]) rfl k) ?_
  show Goes p e below s _ _ _ (s₁.setTop (mkF m 9 #[.val (.long q0), .second, .val (.long q1), .second, .val (.long q2), .second, .val (.long q3), .second, .val (.long q4), .second, .val (.long q5), .second, .val (.int ((q5 &&& (7 : Int64)).toInt32)), .unset, .unset, .unset, .unset, .unset, .unset, .unset, .unset, .unset, .unset, .unset, .unset, .unset] []))
  generalize d_kk : ((q5 &&& (7 : Int64)).toInt32) = kk
  show Goes p e below s _ _ _ (s₁.setTop (mkF m 9 #[.val (.long q0), .second, .val (.long q1), .second, .val (.long q2), .second, .val (.long q3), .second, .val (.long q4), .second, .val (.long q5), .second, .val (.int kk), .unset, .unset, .unset, .unset, .unset, .unset, .unset, .unset, .unset, .unset, .unset, .unset, .unset] []))
  obtain ⟨T1, h1, X1, e1, E1, A1, D1, -, st1⟩ := newO X0 hx hZ hown (hw _ (List.mem_of_getElem? (i := 1) rfl)) (hw _ (List.mem_of_getElem? (i := 2) rfl)) (hw _ (List.mem_of_getElem? (i := 3) rfl)) e0 (g := (mkF m 9 #[.val (.long q0), .second, .val (.long q1), .second, .val (.long q2), .second, .val (.long q3), .second, .val (.long q4), .second, .val (.long q5), .second, .val (.int kk), .unset, .unset, .unset, .unset, .unset, .unset, .unset, .unset, .unset, .unset, .unset, .unset, .unset] [])) rfl (hb hby at_9) (by decide) (by decide)
  obtain ⟨b1, g1⟩ : ∃ z, z = h0.size := ⟨_, rfl⟩
  rw [← g1] at A1 D1 st1
  have gb1 : n0 ≤ b1 := Nat.le_trans Z0 (Nat.le_of_eq g1.symm)
  have sb1 : h0.size ≤ b1 := Nat.le_trans K0.1 (Nat.le_of_eq g1.symm)
  have Z1 := Nat.le_trans Z0 E1.1
  have K1 := Keep.ext K0 E1
  have F1_txCount : Fld Z h1 b1 "com/example/outpoint/outpoint/Totals" "txCount" "J" (.long (0 : Int64)) := D1 (Or.inr (hw _ (List.mem_of_getElem? (i := 11) rfl))) (ty := .long) (by decide)
  have F1_fundedCount : Fld Z h1 b1 "com/example/outpoint/outpoint/Totals" "fundedCount" "J" (.long (0 : Int64)) := D1 (Or.inr (hw _ (List.mem_of_getElem? (i := 13) rfl))) (ty := .long) (by decide)
  have F1_fundedSum : Fld Z h1 b1 "com/example/outpoint/outpoint/Totals" "fundedSum" "J" (.long (0 : Int64)) := D1 (Or.inr (hw _ (List.mem_of_getElem? (i := 15) rfl))) (ty := .long) (by decide)
  have F1_spentCount : Fld Z h1 b1 "com/example/outpoint/outpoint/Totals" "spentCount" "J" (.long (0 : Int64)) := D1 (Or.inr (hw _ (List.mem_of_getElem? (i := 17) rfl))) (ty := .long) (by decide)
  have F1_spentSum : Fld Z h1 b1 "com/example/outpoint/outpoint/Totals" "spentSum" "J" (.long (0 : Int64)) := D1 (Or.inr (hw _ (List.mem_of_getElem? (i := 19) rfl))) (ty := .long) (by decide)
  refine Goes.go st1 ?_
  show Goes p e below s _ _ _ (T1.setTop (mkF m 12 #[.val (.long q0), .second, .val (.long q1), .second, .val (.long q2), .second, .val (.long q3), .second, .val (.long q4), .second, .val (.long q5), .second, .val (.int kk), .unset, .unset, .unset, .unset, .unset, .unset, .unset, .unset, .unset, .unset, .unset, .unset, .unset] [(.ref b1)]))
  refine Goes.go (fun _ k => XS.dup X1.here hx rfl (hb hby at_12) rfl rfl k) ?_
  show Goes p e below s _ _ _ (T1.setTop (mkF m 13 #[.val (.long q0), .second, .val (.long q1), .second, .val (.long q2), .second, .val (.long q3), .second, .val (.long q4), .second, .val (.long q5), .second, .val (.int kk), .unset, .unset, .unset, .unset, .unset, .unset, .unset, .unset, .unset, .unset, .unset, .unset, .unset] [(.ref b1), (.ref b1)]))
  refine Goes.go (fun _ k => XS.lloadN X1.here hx rfl (hb hby at_13) rfl  k) ?_
  show Goes p e below s _ _ _ (T1.setTop (mkF m 14 #[.val (.long q0), .second, .val (.long q1), .second, .val (.long q2), .second, .val (.long q3), .second, .val (.long q4), .second, .val (.long q5), .second, .val (.int kk), .unset, .unset, .unset, .unset, .unset, .unset, .unset, .unset, .unset, .unset, .unset, .unset, .unset] [(.long q0), (.ref b1), (.ref b1)]))
  refine Goes.go (fun _ k => XS.lloadN X1.here hx rfl (hb hby at_14) rfl  k) ?_
  show Goes p e below s _ _ _ (T1.setTop (mkF m 15 #[.val (.long q0), .second, .val (.long q1), .second, .val (.long q2), .second, .val (.long q3), .second, .val (.long q4), .second, .val (.long q5), .second, .val (.int kk), .unset, .unset, .unset, .unset, .unset, .unset, .unset, .unset, .unset, .unset, .unset, .unset, .unset] [(.long q1), (.long q0), (.ref b1), (.ref b1)]))
  refine Goes.go (fun _ k => XS.lload X1.here hx rfl (hb hby at_15) rfl  k) ?_
  show Goes p e below s _ _ _ (T1.setTop (mkF m 17 #[.val (.long q0), .second, .val (.long q1), .second, .val (.long q2), .second, .val (.long q3), .second, .val (.long q4), .second, .val (.long q5), .second, .val (.int kk), .unset, .unset, .unset, .unset, .unset, .unset, .unset, .unset, .unset, .unset, .unset, .unset, .unset] [(.long q2), (.long q1), (.long q0), (.ref b1), (.ref b1)]))
  refine Goes.go (fun _ k => XS.lload X1.here hx rfl (hb hby at_17) rfl  k) ?_
  show Goes p e below s _ _ _ (T1.setTop (mkF m 19 #[.val (.long q0), .second, .val (.long q1), .second, .val (.long q2), .second, .val (.long q3), .second, .val (.long q4), .second, .val (.long q5), .second, .val (.int kk), .unset, .unset, .unset, .unset, .unset, .unset, .unset, .unset, .unset, .unset, .unset, .unset, .unset] [(.long q3), (.long q2), (.long q1), (.long q0), (.ref b1), (.ref b1)]))
  refine Goes.go (fun _ k => XS.lload X1.here hx rfl (hb hby at_19) rfl  k) ?_
  show Goes p e below s _ _ _ (T1.setTop (mkF m 21 #[.val (.long q0), .second, .val (.long q1), .second, .val (.long q2), .second, .val (.long q3), .second, .val (.long q4), .second, .val (.long q5), .second, .val (.int kk), .unset, .unset, .unset, .unset, .unset, .unset, .unset, .unset, .unset, .unset, .unset, .unset, .unset] [(.long q4), (.long q3), (.long q2), (.long q1), (.long q0), (.ref b1), (.ref b1)]))
  obtain ⟨_, _, ⟨T2, L2, k2, n2⟩, -, X2, ⟨Lc2, hQ2, l2, y2, z2⟩, st2⟩ := X1.specialBack hx (y := (⟨"com/example/outpoint/outpoint/Totals", "<init>", "(JJJJJ)V"⟩ : MethodName)) rfl hown (mvT hZ (hw _ (List.mem_of_getElem? (i := 4) rfl))) (mvT hZ (hw _ (List.mem_of_getElem? (i := 5) rfl))) (mvT hZ (hw _ (List.mem_of_getElem? (i := 6) rfl))) (by decide) (backOf (W := 1) (rm1 l Z a0 hw [] b1 q0 q1 q2 q3 q4 h1 n0 Z1 A1 gb1 F1_txCount F1_fundedCount F1_fundedSum F1_spentCount F1_spentSum) hZ (hw _ (List.mem_of_getElem? (i := 6) rfl)) (hw _ (List.mem_of_getElem? (i := 3) rfl)) (by decide) (by decide)) (g := (mkF m 21 #[.val (.long q0), .second, .val (.long q1), .second, .val (.long q2), .second, .val (.long q3), .second, .val (.long q4), .second, .val (.long q5), .second, .val (.int kk), .unset, .unset, .unset, .unset, .unset, .unset, .unset, .unset, .unset, .unset, .unset, .unset, .unset] [(.long q4), (.long q3), (.long q2), (.long q1), (.long q0), (.ref b1), (.ref b1)])) rfl (by rw [hml]; rfl) (Steps.refl _) (a := b1) (argsL := [(.long q0), (.long q1), (.long q2), (.long q3), (.long q4)]) (rest := [(.ref b1)]) (lenOf pd_3 rfl) rfl (by show 2 * 0 + _ ≤ _; exact Nat.le_of_eq rfl) (hb hby at_21) (fun _ _ => ⟨rfl, e1, (by decide : 1 + 0 ≤ _), (by decide : 5 + 0 ≤ _)⟩)
  dsimp only [Pt.U, Pt.locs, Pt.cells, Pt.slots] at X2 l2 y2 z2 st2 hQ2
  subst l2 y2 z2
  obtain ⟨h2, e2⟩ : ∃ z, T2.heap = z := ⟨_, rfl⟩
  rw [e2] at hQ2
  obtain ⟨rfl, N2q, Kq2, G2_0, G2_1, G2_2, G2_3, G2_4, G2_5⟩ := hQ2
  have N2 := Fr.app N0 N2q
  have K2 := Keep.trans K1 Kq2 (allS (Or.inr sb1) all0)
  have Z2 := Nat.le_trans Z1 Kq2.1
  refine Goes.tr st2 ?_
  show Goes p e below s _ _ _ (T2.setTop (mkF m 24 #[.val (.long q0), .second, .val (.long q1), .second, .val (.long q2), .second, .val (.long q3), .second, .val (.long q4), .second, .val (.long q5), .second, .val (.int kk), .unset, .unset, .unset, .unset, .unset, .unset, .unset, .unset, .unset, .unset, .unset, .unset, .unset] [(.ref b1)]))
  refine Goes.go (fun _ k => XS.astore X2.here hx rfl (hb hby at_24) rfl rfl (l' := #[.val (.long q0), .second, .val (.long q1), .second, .val (.long q2), .second, .val (.long q3), .second, .val (.long q4), .second, .val (.long q5), .second, .val (.int kk), .val (.ref b1), .unset, .unset, .unset, .unset, .unset, .unset, .unset, .unset, .unset, .unset, .unset, .unset]) rfl k) ?_
  show Goes p e below s _ _ _ (T2.setTop (mkF m 26 #[.val (.long q0), .second, .val (.long q1), .second, .val (.long q2), .second, .val (.long q3), .second, .val (.long q4), .second, .val (.long q5), .second, .val (.int kk), .val (.ref b1), .unset, .unset, .unset, .unset, .unset, .unset, .unset, .unset, .unset, .unset, .unset, .unset] []))
  refine Goes.go (fun _ k => XS.iload X2.here hx rfl (hb hby at_26) rfl  k) ?_
  show Goes p e below s _ _ _ (T2.setTop (mkF m 28 #[.val (.long q0), .second, .val (.long q1), .second, .val (.long q2), .second, .val (.long q3), .second, .val (.long q4), .second, .val (.long q5), .second, .val (.int kk), .val (.ref b1), .unset, .unset, .unset, .unset, .unset, .unset, .unset, .unset, .unset, .unset, .unset, .unset] [(.int kk)]))
  refine Goes.go (fun _ k => XS.bipush X2.here hx rfl (hb hby at_28) k) ?_
  show Goes p e below s _ _ _ (T2.setTop (mkF m 30 #[.val (.long q0), .second, .val (.long q1), .second, .val (.long q2), .second, .val (.long q3), .second, .val (.long q4), .second, .val (.long q5), .second, .val (.int kk), .val (.ref b1), .unset, .unset, .unset, .unset, .unset, .unset, .unset, .unset, .unset, .unset, .unset, .unset] [(.int (6 : Int32)), (.int kk)]))
  by_cases hc30_3 : kk = (6 : Int32)
  · skip
    refine Goes.go (fun _ k => XS.icmpNo X2.here hx rfl (hb hby at_30) rfl (teq hc30_3).2 k) ?_
    show Goes p e below s _ _ _ (T2.setTop (mkF m 33 #[.val (.long q0), .second, .val (.long q1), .second, .val (.long q2), .second, .val (.long q3), .second, .val (.long q4), .second, .val (.long q5), .second, .val (.int kk), .val (.ref b1), .unset, .unset, .unset, .unset, .unset, .unset, .unset, .unset, .unset, .unset, .unset, .unset] []))
    refine Goes.go (fun _ k => XS.aload X2.here hx rfl (hb hby at_33) rfl rfl  k) ?_
    show Goes p e below s _ _ _ (T2.setTop (mkF m 35 #[.val (.long q0), .second, .val (.long q1), .second, .val (.long q2), .second, .val (.long q3), .second, .val (.long q4), .second, .val (.long q5), .second, .val (.int kk), .val (.ref b1), .unset, .unset, .unset, .unset, .unset, .unset, .unset, .unset, .unset, .unset, .unset, .unset] [(.ref b1)]))
    refine Goes.go (fun _ k => XS.aconstNull X2.here hx rfl (hb hby at_35) k) ?_
    show Goes p e below s _ _ _ (T2.setTop (mkF m 36 #[.val (.long q0), .second, .val (.long q1), .second, .val (.long q2), .second, .val (.long q3), .second, .val (.long q4), .second, .val (.long q5), .second, .val (.int kk), .val (.ref b1), .unset, .unset, .unset, .unset, .unset, .unset, .unset, .unset, .unset, .unset, .unset, .unset] [.null, (.ref b1)]))
    obtain ⟨cq4, kq4, q4a, q4b, q4c⟩ := isOf hZ e2 G2_0
    obtain ⟨_, _, ⟨T4, L4, k4, n4⟩, -, X4, ⟨Lc4, hQ4, l4, y4, z4⟩, st4⟩ := X2.virtualBack hx (y := (⟨"com/example/outpoint/outpoint/Totals", "equals", "(Ljava/lang/Object;)Z"⟩ : MethodName)) (z := (⟨"com/example/outpoint/outpoint/Totals", "equals", "(Ljava/lang/Object;)Z"⟩ : MethodName)) hown (mvT hZ (hw _ (List.mem_of_getElem? (i := 20) rfl))) (mvT hZ (hw _ (List.mem_of_getElem? (i := 21) rfl))) (notFace_of_selects (args := #[]) (mvT hZ (hw _ (List.mem_of_getElem? (i := 23) rfl)))) (mvT hZ (hw _ (List.mem_of_getElem? (i := 23) rfl))) (mvT hZ (hw _ (List.mem_of_getElem? (i := 22) rfl))) (by decide) (backOf (W := 0) (rm3n l Z a0 hw [] b1 h2 n0 Z2 ) hZ (hw _ (List.mem_of_getElem? (i := 24) rfl)) (hw _ (List.mem_of_getElem? (i := 3) rfl)) (by decide) (by decide)) q4a q4c (g := (mkF m 36 #[.val (.long q0), .second, .val (.long q1), .second, .val (.long q2), .second, .val (.long q3), .second, .val (.long q4), .second, .val (.long q5), .second, .val (.int kk), .val (.ref b1), .unset, .unset, .unset, .unset, .unset, .unset, .unset, .unset, .unset, .unset, .unset, .unset] [.null, (.ref b1)])) rfl (by rw [hml]; rfl) (Steps.refl _) (argsL := [.null]) (rest := []) (lenOf pd_4 rfl) rfl (by show 2 * 0 + _ ≤ _; exact Nat.le_of_eq rfl) (hb hby at_36) (fun _ _ => ⟨rfl, e2, (by decide : 1 + 0 ≤ _), (by decide : 5 + 0 ≤ _)⟩)
    dsimp only [Pt.U, Pt.locs, Pt.cells, Pt.slots] at X4 l4 y4 z4 st4 hQ4
    subst l4 y4 z4
    obtain ⟨rfl, N4q, e4⟩ := hQ4
    have N4 := Fr.app N2 N4q
    refine Goes.tr st4 ?_
    show Goes p e below s _ _ _ (T4.setTop (mkF m 39 #[.val (.long q0), .second, .val (.long q1), .second, .val (.long q2), .second, .val (.long q3), .second, .val (.long q4), .second, .val (.long q5), .second, .val (.int kk), .val (.ref b1), .unset, .unset, .unset, .unset, .unset, .unset, .unset, .unset, .unset, .unset, .unset, .unset] [(.int (f3n b1))]))
    have hc39_5 : (f3n b1) = (0 : Int32) := rfl
    refine Goes.go (fun _ k => XS.ifNo X4.here hx rfl (hb hby at_39) rfl ((if0 _ _).trans (teq hc39_5).2) k) ?_
    show Goes p e below s _ _ _ (T4.setTop (mkF m 42 #[.val (.long q0), .second, .val (.long q1), .second, .val (.long q2), .second, .val (.long q3), .second, .val (.long q4), .second, .val (.long q5), .second, .val (.int kk), .val (.ref b1), .unset, .unset, .unset, .unset, .unset, .unset, .unset, .unset, .unset, .unset, .unset, .unset] []))
    refine Goes.go (fun _ k => XS.iconst X4.here hx rfl (hb hby at_42) k) ?_
    show Goes p e below s _ _ _ (T4.setTop (mkF m 43 #[.val (.long q0), .second, .val (.long q1), .second, .val (.long q2), .second, .val (.long q3), .second, .val (.long q4), .second, .val (.long q5), .second, .val (.int kk), .val (.ref b1), .unset, .unset, .unset, .unset, .unset, .unset, .unset, .unset, .unset, .unset, .unset, .unset] [(.int (1 : Int32))]))
    refine Goes.go (fun _ k => XS.goto X4.here hx rfl (pc0 := 43) (pc' := 47) rfl (hb hby at_43) (by decide) (by decide) k) ?_
    show Goes p e below s _ _ _ (T4.setTop (mkF m 47 #[.val (.long q0), .second, .val (.long q1), .second, .val (.long q2), .second, .val (.long q3), .second, .val (.long q4), .second, .val (.long q5), .second, .val (.int kk), .val (.ref b1), .unset, .unset, .unset, .unset, .unset, .unset, .unset, .unset, .unset, .unset, .unset, .unset] [(.int (1 : Int32))]))
    refine Goes.retN .boolean X4 hx hlk Bd.returns (by simp) (hb hby at_47) ?_ (by decide) (by decide)
    exact ⟨rfl, N4⟩
  · skip
    refine Goes.go (fun _ k => XS.icmpYes X2.here hx rfl (pc0 := 30) (pc' := 48) rfl (hb hby at_30) rfl (feq hc30_3).2 (by decide) (by decide) k) ?_
    show Goes p e below s _ _ _ (T2.setTop (mkF m 48 #[.val (.long q0), .second, .val (.long q1), .second, .val (.long q2), .second, .val (.long q3), .second, .val (.long q4), .second, .val (.long q5), .second, .val (.int kk), .val (.ref b1), .unset, .unset, .unset, .unset, .unset, .unset, .unset, .unset, .unset, .unset, .unset, .unset] []))
    refine Goes.go (fun _ k => XS.iload X2.here hx rfl (hb hby at_48) rfl  k) ?_
    show Goes p e below s _ _ _ (T2.setTop (mkF m 50 #[.val (.long q0), .second, .val (.long q1), .second, .val (.long q2), .second, .val (.long q3), .second, .val (.long q4), .second, .val (.long q5), .second, .val (.int kk), .val (.ref b1), .unset, .unset, .unset, .unset, .unset, .unset, .unset, .unset, .unset, .unset, .unset, .unset] [(.int kk)]))
    refine Goes.go (fun _ k => XS.bipush X2.here hx rfl (hb hby at_50) k) ?_
    show Goes p e below s _ _ _ (T2.setTop (mkF m 52 #[.val (.long q0), .second, .val (.long q1), .second, .val (.long q2), .second, .val (.long q3), .second, .val (.long q4), .second, .val (.long q5), .second, .val (.int kk), .val (.ref b1), .unset, .unset, .unset, .unset, .unset, .unset, .unset, .unset, .unset, .unset, .unset, .unset] [(.int (7 : Int32)), (.int kk)]))
    by_cases hc52_6 : kk = (7 : Int32)
    · skip
      refine Goes.go (fun _ k => XS.icmpNo X2.here hx rfl (hb hby at_52) rfl (teq hc52_6).2 k) ?_
      show Goes p e below s _ _ _ (T2.setTop (mkF m 55 #[.val (.long q0), .second, .val (.long q1), .second, .val (.long q2), .second, .val (.long q3), .second, .val (.long q4), .second, .val (.long q5), .second, .val (.int kk), .val (.ref b1), .unset, .unset, .unset, .unset, .unset, .unset, .unset, .unset, .unset, .unset, .unset, .unset] []))
      refine Goes.go (fun _ k => XS.aload X2.here hx rfl (hb hby at_55) rfl rfl  k) ?_
      show Goes p e below s _ _ _ (T2.setTop (mkF m 57 #[.val (.long q0), .second, .val (.long q1), .second, .val (.long q2), .second, .val (.long q3), .second, .val (.long q4), .second, .val (.long q5), .second, .val (.int kk), .val (.ref b1), .unset, .unset, .unset, .unset, .unset, .unset, .unset, .unset, .unset, .unset, .unset, .unset] [(.ref b1)]))
      refine Goes.go (fun _ k => XS.lload X2.here hx rfl (hb hby at_57) rfl  k) ?_
      show Goes p e below s _ _ _ (T2.setTop (mkF m 59 #[.val (.long q0), .second, .val (.long q1), .second, .val (.long q2), .second, .val (.long q3), .second, .val (.long q4), .second, .val (.long q5), .second, .val (.int kk), .val (.ref b1), .unset, .unset, .unset, .unset, .unset, .unset, .unset, .unset, .unset, .unset, .unset, .unset] [(.long q5), (.ref b1)]))
      refine Goes.go (fun _ k => X2.ldc2Long hx hown (mvT hZ (hw _ (List.mem_of_getElem? (i := 27) rfl))) (g := (mkF m 59 #[.val (.long q0), .second, .val (.long q1), .second, .val (.long q2), .second, .val (.long q3), .second, .val (.long q4), .second, .val (.long q5), .second, .val (.int kk), .val (.ref b1), .unset, .unset, .unset, .unset, .unset, .unset, .unset, .unset, .unset, .unset, .unset, .unset] [(.long q5), (.ref b1)])) rfl (hb hby at_59) _ k) ?_
      show Goes p e below s _ _ _ (T2.setTop (mkF m 62 #[.val (.long q0), .second, .val (.long q1), .second, .val (.long q2), .second, .val (.long q3), .second, .val (.long q4), .second, .val (.long q5), .second, .val (.int kk), .val (.ref b1), .unset, .unset, .unset, .unset, .unset, .unset, .unset, .unset, .unset, .unset, .unset, .unset] [(.long (255 : Int64)), (.long q5), (.ref b1)]))
      refine Goes.go (fun _ k => XS.land X2.here hx rfl (hb hby at_62) rfl k) ?_
      show Goes p e below s _ _ _ (T2.setTop (mkF m 63 #[.val (.long q0), .second, .val (.long q1), .second, .val (.long q2), .second, .val (.long q3), .second, .val (.long q4), .second, .val (.long q5), .second, .val (.int kk), .val (.ref b1), .unset, .unset, .unset, .unset, .unset, .unset, .unset, .unset, .unset, .unset, .unset, .unset] [(.long (q5 &&& (255 : Int64))), (.ref b1)]))
      refine Goes.go (fun _ k => XS.l2i X2.here hx rfl (hb hby at_63) rfl k) ?_
      show Goes p e below s _ _ _ (T2.setTop (mkF m 64 #[.val (.long q0), .second, .val (.long q1), .second, .val (.long q2), .second, .val (.long q3), .second, .val (.long q4), .second, .val (.long q5), .second, .val (.int kk), .val (.ref b1), .unset, .unset, .unset, .unset, .unset, .unset, .unset, .unset, .unset, .unset, .unset, .unset] [(.int ((q5 &&& (255 : Int64)).toInt32)), (.ref b1)]))
      refine Goes.go (fun _ k => XS.i2c X2.here hx rfl (hb hby at_64) rfl k) ?_
      show Goes p e below s _ _ _ (T2.setTop (mkF m 65 #[.val (.long q0), .second, .val (.long q1), .second, .val (.long q2), .second, .val (.long q3), .second, .val (.long q4), .second, .val (.long q5), .second, .val (.int kk), .val (.ref b1), .unset, .unset, .unset, .unset, .unset, .unset, .unset, .unset, .unset, .unset, .unset, .unset] [(.int (((q5 &&& (255 : Int64)).toInt32).toUInt32.toUInt16.toUInt32.toInt32)), (.ref b1)]))
      obtain ⟨_, _, ⟨T7, L7, k7, n7⟩, -, X7, ⟨Lc7, hQ7, l7, y7, z7⟩, st7⟩ := Jvm.LawKit.callS X2 hx (y := (⟨"java/lang/String", "valueOf", "(C)Ljava/lang/String;"⟩ : MethodName)) hown (mvT hZ (hw _ (List.mem_of_getElem? (i := 28) rfl))) (mvT hZ (hw _ (List.mem_of_getElem? (i := 29) rfl))) (mvT hZ (hw _ (List.mem_of_getElem? (i := 30) rfl))) (mvT hZ (hw _ (List.mem_of_getElem? (i := 31) rfl))) (by decide) (backOf (W := 1) (rm4 l Z a0 hw [] (((q5 &&& (255 : Int64)).toInt32).toUInt32.toUInt16.toUInt32.toInt32) ccs h2 n0 Z2 (S_COMPACT_STRINGS.ext (own_kx K2)) hcs (own_chr _)) hZ (hw _ (List.mem_of_getElem? (i := 31) rfl)) (hw _ (List.mem_of_getElem? (i := 30) rfl)) (by decide) (by decide)) (g := (mkF m 65 #[.val (.long q0), .second, .val (.long q1), .second, .val (.long q2), .second, .val (.long q3), .second, .val (.long q4), .second, .val (.long q5), .second, .val (.int kk), .val (.ref b1), .unset, .unset, .unset, .unset, .unset, .unset, .unset, .unset, .unset, .unset, .unset, .unset] [(.int (((q5 &&& (255 : Int64)).toInt32).toUInt32.toUInt16.toUInt32.toInt32)), (.ref b1)])) rfl (by rw [hml]; rfl) (argsL := [(.int (((q5 &&& (255 : Int64)).toInt32).toUInt32.toUInt16.toUInt32.toInt32))]) (rest := [(.ref b1)]) (lenOf pd_5 rfl) rfl (by show 2 * 0 + _ ≤ _; exact Nat.le_of_eq rfl) (hb hby at_65) (fun _ _ => ⟨rfl, e2, (by decide : 1 + 2 ≤ _), (by decide : 5 + 5 ≤ _)⟩)
      dsimp only [Pt.U, Pt.locs, Pt.cells, Pt.slots] at X7 l7 y7 z7 st7 hQ7
      subst l7 y7 z7
      obtain ⟨h7, e7⟩ : ∃ z, T7.heap = z := ⟨_, rfl⟩
      rw [e7] at hQ7
      obtain ⟨c7_ms, sb_c7_ms, rfl, N7q, Kq7, G7_0⟩ := hQ7
      have N7 := Fr.app N2 N7q
      have gb_c7_ms : n0 ≤ c7_ms := Nat.le_trans Z2 sb_c7_ms
      have sh_c7_ms : h0.size ≤ c7_ms := Nat.le_trans K2.1 sb_c7_ms
      have K7 := Keep.trans K2 Kq7 all0
      have Z7 := Nat.le_trans Z2 Kq7.1
      refine Goes.go st7 ?_
      show Goes p e below s _ _ _ (T7.setTop (mkF m 68 #[.val (.long q0), .second, .val (.long q1), .second, .val (.long q2), .second, .val (.long q3), .second, .val (.long q4), .second, .val (.long q5), .second, .val (.int kk), .val (.ref b1), .unset, .unset, .unset, .unset, .unset, .unset, .unset, .unset, .unset, .unset, .unset, .unset] [(.ref c7_ms), (.ref b1)]))
      obtain ⟨cq8, kq8, q8a, q8b, q8c⟩ := isOf hZ e7 (G2_0.keep Kq7)
      obtain ⟨_, _, ⟨T8, L8, k8, n8⟩, -, X8, ⟨Lc8, hQ8, l8, y8, z8⟩, st8⟩ := X7.virtualBack hx (y := (⟨"com/example/outpoint/outpoint/Totals", "equals", "(Ljava/lang/Object;)Z"⟩ : MethodName)) (z := (⟨"com/example/outpoint/outpoint/Totals", "equals", "(Ljava/lang/Object;)Z"⟩ : MethodName)) hown (mvT hZ (hw _ (List.mem_of_getElem? (i := 20) rfl))) (mvT hZ (hw _ (List.mem_of_getElem? (i := 21) rfl))) (notFace_of_selects (args := #[]) (mvT hZ (hw _ (List.mem_of_getElem? (i := 23) rfl)))) (mvT hZ (hw _ (List.mem_of_getElem? (i := 23) rfl))) (mvT hZ (hw _ (List.mem_of_getElem? (i := 22) rfl))) (by decide) (backOf (W := 0) (rm3o l Z a0 hw [] b1 c7_ms h7 n0 Z7 G7_0) hZ (hw _ (List.mem_of_getElem? (i := 24) rfl)) (hw _ (List.mem_of_getElem? (i := 3) rfl)) (by decide) (by decide)) q8a q8c (g := (mkF m 68 #[.val (.long q0), .second, .val (.long q1), .second, .val (.long q2), .second, .val (.long q3), .second, .val (.long q4), .second, .val (.long q5), .second, .val (.int kk), .val (.ref b1), .unset, .unset, .unset, .unset, .unset, .unset, .unset, .unset, .unset, .unset, .unset, .unset] [(.ref c7_ms), (.ref b1)])) rfl (by rw [hml]; rfl) (Steps.refl _) (argsL := [(.ref c7_ms)]) (rest := []) (lenOf pd_4 rfl) rfl (by show 2 * 0 + _ ≤ _; exact Nat.le_of_eq rfl) (hb hby at_68) (fun _ _ => ⟨rfl, e7, (by decide : 3 + 0 ≤ _), (by decide : 10 + 0 ≤ _)⟩)
      dsimp only [Pt.U, Pt.locs, Pt.cells, Pt.slots] at X8 l8 y8 z8 st8 hQ8
      subst l8 y8 z8
      obtain ⟨rfl, N8q, e8⟩ := hQ8
      have N8 := Fr.app N7 N8q
      refine Goes.tr st8 ?_
      show Goes p e below s _ _ _ (T8.setTop (mkF m 71 #[.val (.long q0), .second, .val (.long q1), .second, .val (.long q2), .second, .val (.long q3), .second, .val (.long q4), .second, .val (.long q5), .second, .val (.int kk), .val (.ref b1), .unset, .unset, .unset, .unset, .unset, .unset, .unset, .unset, .unset, .unset, .unset, .unset] [(.int (f3o b1 c7_ms))]))
      have hc71_9 : (f3o b1 c7_ms) = (0 : Int32) := rfl
      refine Goes.go (fun _ k => XS.ifNo X8.here hx rfl (hb hby at_71) rfl ((if0 _ _).trans (teq hc71_9).2) k) ?_
      show Goes p e below s _ _ _ (T8.setTop (mkF m 74 #[.val (.long q0), .second, .val (.long q1), .second, .val (.long q2), .second, .val (.long q3), .second, .val (.long q4), .second, .val (.long q5), .second, .val (.int kk), .val (.ref b1), .unset, .unset, .unset, .unset, .unset, .unset, .unset, .unset, .unset, .unset, .unset, .unset] []))
      refine Goes.go (fun _ k => XS.iconst X8.here hx rfl (hb hby at_74) k) ?_
      show Goes p e below s _ _ _ (T8.setTop (mkF m 75 #[.val (.long q0), .second, .val (.long q1), .second, .val (.long q2), .second, .val (.long q3), .second, .val (.long q4), .second, .val (.long q5), .second, .val (.int kk), .val (.ref b1), .unset, .unset, .unset, .unset, .unset, .unset, .unset, .unset, .unset, .unset, .unset, .unset] [(.int (1 : Int32))]))
      refine Goes.go (fun _ k => XS.goto X8.here hx rfl (pc0 := 75) (pc' := 79) rfl (hb hby at_75) (by decide) (by decide) k) ?_
      show Goes p e below s _ _ _ (T8.setTop (mkF m 79 #[.val (.long q0), .second, .val (.long q1), .second, .val (.long q2), .second, .val (.long q3), .second, .val (.long q4), .second, .val (.long q5), .second, .val (.int kk), .val (.ref b1), .unset, .unset, .unset, .unset, .unset, .unset, .unset, .unset, .unset, .unset, .unset, .unset] [(.int (1 : Int32))]))
      refine Goes.retN .boolean X8 hx hlk Bd.returns (by simp) (hb hby at_79) ?_ (by decide) (by decide)
      exact ⟨rfl, N8⟩
    · skip
      refine Goes.go (fun _ k => XS.icmpYes X2.here hx rfl (pc0 := 52) (pc' := 80) rfl (hb hby at_52) rfl (feq hc52_6).2 (by decide) (by decide) k) ?_
      show Goes p e below s _ _ _ (T2.setTop (mkF m 80 #[.val (.long q0), .second, .val (.long q1), .second, .val (.long q2), .second, .val (.long q3), .second, .val (.long q4), .second, .val (.long q5), .second, .val (.int kk), .val (.ref b1), .unset, .unset, .unset, .unset, .unset, .unset, .unset, .unset, .unset, .unset, .unset, .unset] []))
      refine Goes.go (fun _ k => XS.iload X2.here hx rfl (hb hby at_80) rfl  k) ?_
      show Goes p e below s _ _ _ (T2.setTop (mkF m 82 #[.val (.long q0), .second, .val (.long q1), .second, .val (.long q2), .second, .val (.long q3), .second, .val (.long q4), .second, .val (.long q5), .second, .val (.int kk), .val (.ref b1), .unset, .unset, .unset, .unset, .unset, .unset, .unset, .unset, .unset, .unset, .unset, .unset] [(.int kk)]))
      obtain ⟨z10_s0, hz10_s0⟩ : ∃ z : Int64, z = if kk = (0 : Int32) then q5 else q0 := ⟨_, rfl⟩
      have sm10 : ∀ t, Steps p.tables e below (T2.setTop (mkF m 91 #[.val (.long q0), .second, .val (.long q1), .second, .val (.long q2), .second, .val (.long q3), .second, .val (.long q4), .second, .val (.long q5), .second, .val (.int kk), .val (.ref b1), .unset, .unset, .unset, .unset, .unset, .unset, .unset, .unset, .unset, .unset, .unset, .unset] [(.long z10_s0)])) t → Steps p.tables e below (T2.setTop (mkF m 82 #[.val (.long q0), .second, .val (.long q1), .second, .val (.long q2), .second, .val (.long q3), .second, .val (.long q4), .second, .val (.long q5), .second, .val (.int kk), .val (.ref b1), .unset, .unset, .unset, .unset, .unset, .unset, .unset, .unset, .unset, .unset, .unset, .unset] [(.int kk)])) t := by
        intro t k
        by_cases hc82_10 : kk = (0 : Int32)
        · have k2 : Steps p.tables e below (T2.setTop (mkF m 91 #[.val (.long q0), .second, .val (.long q1), .second, .val (.long q2), .second, .val (.long q3), .second, .val (.long q4), .second, .val (.long q5), .second, .val (.int kk), .val (.ref b1), .unset, .unset, .unset, .unset, .unset, .unset, .unset, .unset, .unset, .unset, .unset, .unset] [(.long q5)])) t := by simpa only [hz10_s0, if_pos hc82_10] using k
          show Steps p.tables e below (T2.setTop (mkF m 82 #[.val (.long q0), .second, .val (.long q1), .second, .val (.long q2), .second, .val (.long q3), .second, .val (.long q4), .second, .val (.long q5), .second, .val (.int kk), .val (.ref b1), .unset, .unset, .unset, .unset, .unset, .unset, .unset, .unset, .unset, .unset, .unset, .unset] [(.int kk)])) _
          refine XS.ifNo X2.here hx rfl (hb hby at_82) rfl ((if0 _ _).trans (teq hc82_10).2) ?_
          show Steps p.tables e below (T2.setTop (mkF m 85 #[.val (.long q0), .second, .val (.long q1), .second, .val (.long q2), .second, .val (.long q3), .second, .val (.long q4), .second, .val (.long q5), .second, .val (.int kk), .val (.ref b1), .unset, .unset, .unset, .unset, .unset, .unset, .unset, .unset, .unset, .unset, .unset, .unset] [])) _
          refine XS.lload X2.here hx rfl (hb hby at_85) rfl  ?_
          show Steps p.tables e below (T2.setTop (mkF m 87 #[.val (.long q0), .second, .val (.long q1), .second, .val (.long q2), .second, .val (.long q3), .second, .val (.long q4), .second, .val (.long q5), .second, .val (.int kk), .val (.ref b1), .unset, .unset, .unset, .unset, .unset, .unset, .unset, .unset, .unset, .unset, .unset, .unset] [(.long q5)])) _
          refine XS.goto X2.here hx rfl (pc0 := 87) (pc' := 91) rfl (hb hby at_87) (by decide) (by decide) ?_
          exact k2
        · have k2 : Steps p.tables e below (T2.setTop (mkF m 91 #[.val (.long q0), .second, .val (.long q1), .second, .val (.long q2), .second, .val (.long q3), .second, .val (.long q4), .second, .val (.long q5), .second, .val (.int kk), .val (.ref b1), .unset, .unset, .unset, .unset, .unset, .unset, .unset, .unset, .unset, .unset, .unset, .unset] [(.long q0)])) t := by simpa only [hz10_s0, if_neg hc82_10] using k
          show Steps p.tables e below (T2.setTop (mkF m 82 #[.val (.long q0), .second, .val (.long q1), .second, .val (.long q2), .second, .val (.long q3), .second, .val (.long q4), .second, .val (.long q5), .second, .val (.int kk), .val (.ref b1), .unset, .unset, .unset, .unset, .unset, .unset, .unset, .unset, .unset, .unset, .unset, .unset] [(.int kk)])) _
          refine XS.ifYes X2.here hx rfl (pc0 := 82) (pc' := 90) rfl (hb hby at_82) rfl ((if0 _ _).trans (feq hc82_10).2) (by decide) (by decide) ?_
          show Steps p.tables e below (T2.setTop (mkF m 90 #[.val (.long q0), .second, .val (.long q1), .second, .val (.long q2), .second, .val (.long q3), .second, .val (.long q4), .second, .val (.long q5), .second, .val (.int kk), .val (.ref b1), .unset, .unset, .unset, .unset, .unset, .unset, .unset, .unset, .unset, .unset, .unset, .unset] [])) _
          refine XS.lloadN X2.here hx rfl (hb hby at_90) rfl  ?_
          exact k2
      refine Goes.go sm10 ?_
      show Goes p e below s _ _ _ (T2.setTop (mkF m 91 #[.val (.long q0), .second, .val (.long q1), .second, .val (.long q2), .second, .val (.long q3), .second, .val (.long q4), .second, .val (.long q5), .second, .val (.int kk), .val (.ref b1), .unset, .unset, .unset, .unset, .unset, .unset, .unset, .unset, .unset, .unset, .unset, .unset] [(.long z10_s0)]))
      refine Goes.go (fun _ k => XS.lstore X2.here hx rfl (hb hby at_91) rfl (l' := #[.val (.long q0), .second, .val (.long q1), .second, .val (.long q2), .second, .val (.long q3), .second, .val (.long q4), .second, .val (.long q5), .second, .val (.int kk), .val (.ref b1), .val (.long z10_s0), .second, .unset, .unset, .unset, .unset, .unset, .unset, .unset, .unset, .unset, .unset]) rfl k) ?_
      show Goes p e below s _ _ _ (T2.setTop (mkF m 93 #[.val (.long q0), .second, .val (.long q1), .second, .val (.long q2), .second, .val (.long q3), .second, .val (.long q4), .second, .val (.long q5), .second, .val (.int kk), .val (.ref b1), .val (.long z10_s0), .second, .unset, .unset, .unset, .unset, .unset, .unset, .unset, .unset, .unset, .unset] []))
      refine Goes.go (fun _ k => XS.iload X2.here hx rfl (hb hby at_93) rfl  k) ?_
      show Goes p e below s _ _ _ (T2.setTop (mkF m 95 #[.val (.long q0), .second, .val (.long q1), .second, .val (.long q2), .second, .val (.long q3), .second, .val (.long q4), .second, .val (.long q5), .second, .val (.int kk), .val (.ref b1), .val (.long z10_s0), .second, .unset, .unset, .unset, .unset, .unset, .unset, .unset, .unset, .unset, .unset] [(.int kk)]))
      refine Goes.go (fun _ k => XS.iconst X2.here hx rfl (hb hby at_95) k) ?_
      show Goes p e below s _ _ _ (T2.setTop (mkF m 96 #[.val (.long q0), .second, .val (.long q1), .second, .val (.long q2), .second, .val (.long q3), .second, .val (.long q4), .second, .val (.long q5), .second, .val (.int kk), .val (.ref b1), .val (.long z10_s0), .second, .unset, .unset, .unset, .unset, .unset, .unset, .unset, .unset, .unset, .unset] [(.int (1 : Int32)), (.int kk)]))
      obtain ⟨z11_s0, hz11_s0⟩ : ∃ z : Int64, z = if kk = (1 : Int32) then q5 else q1 := ⟨_, rfl⟩
      have sm11 : ∀ t, Steps p.tables e below (T2.setTop (mkF m 105 #[.val (.long q0), .second, .val (.long q1), .second, .val (.long q2), .second, .val (.long q3), .second, .val (.long q4), .second, .val (.long q5), .second, .val (.int kk), .val (.ref b1), .val (.long z10_s0), .second, .unset, .unset, .unset, .unset, .unset, .unset, .unset, .unset, .unset, .unset] [(.long z11_s0)])) t → Steps p.tables e below (T2.setTop (mkF m 96 #[.val (.long q0), .second, .val (.long q1), .second, .val (.long q2), .second, .val (.long q3), .second, .val (.long q4), .second, .val (.long q5), .second, .val (.int kk), .val (.ref b1), .val (.long z10_s0), .second, .unset, .unset, .unset, .unset, .unset, .unset, .unset, .unset, .unset, .unset] [(.int (1 : Int32)), (.int kk)])) t := by
        intro t k
        by_cases hc96_11 : kk = (1 : Int32)
        · have k2 : Steps p.tables e below (T2.setTop (mkF m 105 #[.val (.long q0), .second, .val (.long q1), .second, .val (.long q2), .second, .val (.long q3), .second, .val (.long q4), .second, .val (.long q5), .second, .val (.int kk), .val (.ref b1), .val (.long z10_s0), .second, .unset, .unset, .unset, .unset, .unset, .unset, .unset, .unset, .unset, .unset] [(.long q5)])) t := by simpa only [hz11_s0, if_pos hc96_11] using k
          show Steps p.tables e below (T2.setTop (mkF m 96 #[.val (.long q0), .second, .val (.long q1), .second, .val (.long q2), .second, .val (.long q3), .second, .val (.long q4), .second, .val (.long q5), .second, .val (.int kk), .val (.ref b1), .val (.long z10_s0), .second, .unset, .unset, .unset, .unset, .unset, .unset, .unset, .unset, .unset, .unset] [(.int (1 : Int32)), (.int kk)])) _
          refine XS.icmpNo X2.here hx rfl (hb hby at_96) rfl (teq hc96_11).2 ?_
          show Steps p.tables e below (T2.setTop (mkF m 99 #[.val (.long q0), .second, .val (.long q1), .second, .val (.long q2), .second, .val (.long q3), .second, .val (.long q4), .second, .val (.long q5), .second, .val (.int kk), .val (.ref b1), .val (.long z10_s0), .second, .unset, .unset, .unset, .unset, .unset, .unset, .unset, .unset, .unset, .unset] [])) _
          refine XS.lload X2.here hx rfl (hb hby at_99) rfl  ?_
          show Steps p.tables e below (T2.setTop (mkF m 101 #[.val (.long q0), .second, .val (.long q1), .second, .val (.long q2), .second, .val (.long q3), .second, .val (.long q4), .second, .val (.long q5), .second, .val (.int kk), .val (.ref b1), .val (.long z10_s0), .second, .unset, .unset, .unset, .unset, .unset, .unset, .unset, .unset, .unset, .unset] [(.long q5)])) _
          refine XS.goto X2.here hx rfl (pc0 := 101) (pc' := 105) rfl (hb hby at_101) (by decide) (by decide) ?_
          exact k2
        · have k2 : Steps p.tables e below (T2.setTop (mkF m 105 #[.val (.long q0), .second, .val (.long q1), .second, .val (.long q2), .second, .val (.long q3), .second, .val (.long q4), .second, .val (.long q5), .second, .val (.int kk), .val (.ref b1), .val (.long z10_s0), .second, .unset, .unset, .unset, .unset, .unset, .unset, .unset, .unset, .unset, .unset] [(.long q1)])) t := by simpa only [hz11_s0, if_neg hc96_11] using k
          show Steps p.tables e below (T2.setTop (mkF m 96 #[.val (.long q0), .second, .val (.long q1), .second, .val (.long q2), .second, .val (.long q3), .second, .val (.long q4), .second, .val (.long q5), .second, .val (.int kk), .val (.ref b1), .val (.long z10_s0), .second, .unset, .unset, .unset, .unset, .unset, .unset, .unset, .unset, .unset, .unset] [(.int (1 : Int32)), (.int kk)])) _
          refine XS.icmpYes X2.here hx rfl (pc0 := 96) (pc' := 104) rfl (hb hby at_96) rfl (feq hc96_11).2 (by decide) (by decide) ?_
          show Steps p.tables e below (T2.setTop (mkF m 104 #[.val (.long q0), .second, .val (.long q1), .second, .val (.long q2), .second, .val (.long q3), .second, .val (.long q4), .second, .val (.long q5), .second, .val (.int kk), .val (.ref b1), .val (.long z10_s0), .second, .unset, .unset, .unset, .unset, .unset, .unset, .unset, .unset, .unset, .unset] [])) _
          refine XS.lloadN X2.here hx rfl (hb hby at_104) rfl  ?_
          exact k2
      refine Goes.go sm11 ?_
      show Goes p e below s _ _ _ (T2.setTop (mkF m 105 #[.val (.long q0), .second, .val (.long q1), .second, .val (.long q2), .second, .val (.long q3), .second, .val (.long q4), .second, .val (.long q5), .second, .val (.int kk), .val (.ref b1), .val (.long z10_s0), .second, .unset, .unset, .unset, .unset, .unset, .unset, .unset, .unset, .unset, .unset] [(.long z11_s0)]))
      refine Goes.go (fun _ k => XS.lstore X2.here hx rfl (hb hby at_105) rfl (l' := #[.val (.long q0), .second, .val (.long q1), .second, .val (.long q2), .second, .val (.long q3), .second, .val (.long q4), .second, .val (.long q5), .second, .val (.int kk), .val (.ref b1), .val (.long z10_s0), .second, .val (.long z11_s0), .second, .unset, .unset, .unset, .unset, .unset, .unset, .unset, .unset]) rfl k) ?_
      show Goes p e below s _ _ _ (T2.setTop (mkF m 107 #[.val (.long q0), .second, .val (.long q1), .second, .val (.long q2), .second, .val (.long q3), .second, .val (.long q4), .second, .val (.long q5), .second, .val (.int kk), .val (.ref b1), .val (.long z10_s0), .second, .val (.long z11_s0), .second, .unset, .unset, .unset, .unset, .unset, .unset, .unset, .unset] []))
      refine Goes.go (fun _ k => XS.iload X2.here hx rfl (hb hby at_107) rfl  k) ?_
      show Goes p e below s _ _ _ (T2.setTop (mkF m 109 #[.val (.long q0), .second, .val (.long q1), .second, .val (.long q2), .second, .val (.long q3), .second, .val (.long q4), .second, .val (.long q5), .second, .val (.int kk), .val (.ref b1), .val (.long z10_s0), .second, .val (.long z11_s0), .second, .unset, .unset, .unset, .unset, .unset, .unset, .unset, .unset] [(.int kk)]))
      refine Goes.go (fun _ k => XS.iconst X2.here hx rfl (hb hby at_109) k) ?_
      show Goes p e below s _ _ _ (T2.setTop (mkF m 110 #[.val (.long q0), .second, .val (.long q1), .second, .val (.long q2), .second, .val (.long q3), .second, .val (.long q4), .second, .val (.long q5), .second, .val (.int kk), .val (.ref b1), .val (.long z10_s0), .second, .val (.long z11_s0), .second, .unset, .unset, .unset, .unset, .unset, .unset, .unset, .unset] [(.int (2 : Int32)), (.int kk)]))
      obtain ⟨z12_s0, hz12_s0⟩ : ∃ z : Int64, z = if kk = (2 : Int32) then q5 else q2 := ⟨_, rfl⟩
      have sm12 : ∀ t, Steps p.tables e below (T2.setTop (mkF m 120 #[.val (.long q0), .second, .val (.long q1), .second, .val (.long q2), .second, .val (.long q3), .second, .val (.long q4), .second, .val (.long q5), .second, .val (.int kk), .val (.ref b1), .val (.long z10_s0), .second, .val (.long z11_s0), .second, .unset, .unset, .unset, .unset, .unset, .unset, .unset, .unset] [(.long z12_s0)])) t → Steps p.tables e below (T2.setTop (mkF m 110 #[.val (.long q0), .second, .val (.long q1), .second, .val (.long q2), .second, .val (.long q3), .second, .val (.long q4), .second, .val (.long q5), .second, .val (.int kk), .val (.ref b1), .val (.long z10_s0), .second, .val (.long z11_s0), .second, .unset, .unset, .unset, .unset, .unset, .unset, .unset, .unset] [(.int (2 : Int32)), (.int kk)])) t := by
        intro t k
        by_cases hc110_12 : kk = (2 : Int32)
        · have k2 : Steps p.tables e below (T2.setTop (mkF m 120 #[.val (.long q0), .second, .val (.long q1), .second, .val (.long q2), .second, .val (.long q3), .second, .val (.long q4), .second, .val (.long q5), .second, .val (.int kk), .val (.ref b1), .val (.long z10_s0), .second, .val (.long z11_s0), .second, .unset, .unset, .unset, .unset, .unset, .unset, .unset, .unset] [(.long q5)])) t := by simpa only [hz12_s0, if_pos hc110_12] using k
          show Steps p.tables e below (T2.setTop (mkF m 110 #[.val (.long q0), .second, .val (.long q1), .second, .val (.long q2), .second, .val (.long q3), .second, .val (.long q4), .second, .val (.long q5), .second, .val (.int kk), .val (.ref b1), .val (.long z10_s0), .second, .val (.long z11_s0), .second, .unset, .unset, .unset, .unset, .unset, .unset, .unset, .unset] [(.int (2 : Int32)), (.int kk)])) _
          refine XS.icmpNo X2.here hx rfl (hb hby at_110) rfl (teq hc110_12).2 ?_
          show Steps p.tables e below (T2.setTop (mkF m 113 #[.val (.long q0), .second, .val (.long q1), .second, .val (.long q2), .second, .val (.long q3), .second, .val (.long q4), .second, .val (.long q5), .second, .val (.int kk), .val (.ref b1), .val (.long z10_s0), .second, .val (.long z11_s0), .second, .unset, .unset, .unset, .unset, .unset, .unset, .unset, .unset] [])) _
          refine XS.lload X2.here hx rfl (hb hby at_113) rfl  ?_
          show Steps p.tables e below (T2.setTop (mkF m 115 #[.val (.long q0), .second, .val (.long q1), .second, .val (.long q2), .second, .val (.long q3), .second, .val (.long q4), .second, .val (.long q5), .second, .val (.int kk), .val (.ref b1), .val (.long z10_s0), .second, .val (.long z11_s0), .second, .unset, .unset, .unset, .unset, .unset, .unset, .unset, .unset] [(.long q5)])) _
          refine XS.goto X2.here hx rfl (pc0 := 115) (pc' := 120) rfl (hb hby at_115) (by decide) (by decide) ?_
          exact k2
        · have k2 : Steps p.tables e below (T2.setTop (mkF m 120 #[.val (.long q0), .second, .val (.long q1), .second, .val (.long q2), .second, .val (.long q3), .second, .val (.long q4), .second, .val (.long q5), .second, .val (.int kk), .val (.ref b1), .val (.long z10_s0), .second, .val (.long z11_s0), .second, .unset, .unset, .unset, .unset, .unset, .unset, .unset, .unset] [(.long q2)])) t := by simpa only [hz12_s0, if_neg hc110_12] using k
          show Steps p.tables e below (T2.setTop (mkF m 110 #[.val (.long q0), .second, .val (.long q1), .second, .val (.long q2), .second, .val (.long q3), .second, .val (.long q4), .second, .val (.long q5), .second, .val (.int kk), .val (.ref b1), .val (.long z10_s0), .second, .val (.long z11_s0), .second, .unset, .unset, .unset, .unset, .unset, .unset, .unset, .unset] [(.int (2 : Int32)), (.int kk)])) _
          refine XS.icmpYes X2.here hx rfl (pc0 := 110) (pc' := 118) rfl (hb hby at_110) rfl (feq hc110_12).2 (by decide) (by decide) ?_
          show Steps p.tables e below (T2.setTop (mkF m 118 #[.val (.long q0), .second, .val (.long q1), .second, .val (.long q2), .second, .val (.long q3), .second, .val (.long q4), .second, .val (.long q5), .second, .val (.int kk), .val (.ref b1), .val (.long z10_s0), .second, .val (.long z11_s0), .second, .unset, .unset, .unset, .unset, .unset, .unset, .unset, .unset] [])) _
          refine XS.lload X2.here hx rfl (hb hby at_118) rfl  ?_
          exact k2
      refine Goes.go sm12 ?_
      show Goes p e below s _ _ _ (T2.setTop (mkF m 120 #[.val (.long q0), .second, .val (.long q1), .second, .val (.long q2), .second, .val (.long q3), .second, .val (.long q4), .second, .val (.long q5), .second, .val (.int kk), .val (.ref b1), .val (.long z10_s0), .second, .val (.long z11_s0), .second, .unset, .unset, .unset, .unset, .unset, .unset, .unset, .unset] [(.long z12_s0)]))
      refine Goes.go (fun _ k => XS.lstore X2.here hx rfl (hb hby at_120) rfl (l' := #[.val (.long q0), .second, .val (.long q1), .second, .val (.long q2), .second, .val (.long q3), .second, .val (.long q4), .second, .val (.long q5), .second, .val (.int kk), .val (.ref b1), .val (.long z10_s0), .second, .val (.long z11_s0), .second, .val (.long z12_s0), .second, .unset, .unset, .unset, .unset, .unset, .unset]) rfl k) ?_
      show Goes p e below s _ _ _ (T2.setTop (mkF m 122 #[.val (.long q0), .second, .val (.long q1), .second, .val (.long q2), .second, .val (.long q3), .second, .val (.long q4), .second, .val (.long q5), .second, .val (.int kk), .val (.ref b1), .val (.long z10_s0), .second, .val (.long z11_s0), .second, .val (.long z12_s0), .second, .unset, .unset, .unset, .unset, .unset, .unset] []))
      refine Goes.go (fun _ k => XS.iload X2.here hx rfl (hb hby at_122) rfl  k) ?_
      show Goes p e below s _ _ _ (T2.setTop (mkF m 124 #[.val (.long q0), .second, .val (.long q1), .second, .val (.long q2), .second, .val (.long q3), .second, .val (.long q4), .second, .val (.long q5), .second, .val (.int kk), .val (.ref b1), .val (.long z10_s0), .second, .val (.long z11_s0), .second, .val (.long z12_s0), .second, .unset, .unset, .unset, .unset, .unset, .unset] [(.int kk)]))
      refine Goes.go (fun _ k => XS.iconst X2.here hx rfl (hb hby at_124) k) ?_
      show Goes p e below s _ _ _ (T2.setTop (mkF m 125 #[.val (.long q0), .second, .val (.long q1), .second, .val (.long q2), .second, .val (.long q3), .second, .val (.long q4), .second, .val (.long q5), .second, .val (.int kk), .val (.ref b1), .val (.long z10_s0), .second, .val (.long z11_s0), .second, .val (.long z12_s0), .second, .unset, .unset, .unset, .unset, .unset, .unset] [(.int (3 : Int32)), (.int kk)]))
      obtain ⟨z13_s0, hz13_s0⟩ : ∃ z : Int64, z = if kk = (3 : Int32) then q5 else q3 := ⟨_, rfl⟩
      have sm13 : ∀ t, Steps p.tables e below (T2.setTop (mkF m 135 #[.val (.long q0), .second, .val (.long q1), .second, .val (.long q2), .second, .val (.long q3), .second, .val (.long q4), .second, .val (.long q5), .second, .val (.int kk), .val (.ref b1), .val (.long z10_s0), .second, .val (.long z11_s0), .second, .val (.long z12_s0), .second, .unset, .unset, .unset, .unset, .unset, .unset] [(.long z13_s0)])) t → Steps p.tables e below (T2.setTop (mkF m 125 #[.val (.long q0), .second, .val (.long q1), .second, .val (.long q2), .second, .val (.long q3), .second, .val (.long q4), .second, .val (.long q5), .second, .val (.int kk), .val (.ref b1), .val (.long z10_s0), .second, .val (.long z11_s0), .second, .val (.long z12_s0), .second, .unset, .unset, .unset, .unset, .unset, .unset] [(.int (3 : Int32)), (.int kk)])) t := by
        intro t k
        by_cases hc125_13 : kk = (3 : Int32)
        · have k2 : Steps p.tables e below (T2.setTop (mkF m 135 #[.val (.long q0), .second, .val (.long q1), .second, .val (.long q2), .second, .val (.long q3), .second, .val (.long q4), .second, .val (.long q5), .second, .val (.int kk), .val (.ref b1), .val (.long z10_s0), .second, .val (.long z11_s0), .second, .val (.long z12_s0), .second, .unset, .unset, .unset, .unset, .unset, .unset] [(.long q5)])) t := by simpa only [hz13_s0, if_pos hc125_13] using k
          show Steps p.tables e below (T2.setTop (mkF m 125 #[.val (.long q0), .second, .val (.long q1), .second, .val (.long q2), .second, .val (.long q3), .second, .val (.long q4), .second, .val (.long q5), .second, .val (.int kk), .val (.ref b1), .val (.long z10_s0), .second, .val (.long z11_s0), .second, .val (.long z12_s0), .second, .unset, .unset, .unset, .unset, .unset, .unset] [(.int (3 : Int32)), (.int kk)])) _
          refine XS.icmpNo X2.here hx rfl (hb hby at_125) rfl (teq hc125_13).2 ?_
          show Steps p.tables e below (T2.setTop (mkF m 128 #[.val (.long q0), .second, .val (.long q1), .second, .val (.long q2), .second, .val (.long q3), .second, .val (.long q4), .second, .val (.long q5), .second, .val (.int kk), .val (.ref b1), .val (.long z10_s0), .second, .val (.long z11_s0), .second, .val (.long z12_s0), .second, .unset, .unset, .unset, .unset, .unset, .unset] [])) _
          refine XS.lload X2.here hx rfl (hb hby at_128) rfl  ?_
          show Steps p.tables e below (T2.setTop (mkF m 130 #[.val (.long q0), .second, .val (.long q1), .second, .val (.long q2), .second, .val (.long q3), .second, .val (.long q4), .second, .val (.long q5), .second, .val (.int kk), .val (.ref b1), .val (.long z10_s0), .second, .val (.long z11_s0), .second, .val (.long z12_s0), .second, .unset, .unset, .unset, .unset, .unset, .unset] [(.long q5)])) _
          refine XS.goto X2.here hx rfl (pc0 := 130) (pc' := 135) rfl (hb hby at_130) (by decide) (by decide) ?_
          exact k2
        · have k2 : Steps p.tables e below (T2.setTop (mkF m 135 #[.val (.long q0), .second, .val (.long q1), .second, .val (.long q2), .second, .val (.long q3), .second, .val (.long q4), .second, .val (.long q5), .second, .val (.int kk), .val (.ref b1), .val (.long z10_s0), .second, .val (.long z11_s0), .second, .val (.long z12_s0), .second, .unset, .unset, .unset, .unset, .unset, .unset] [(.long q3)])) t := by simpa only [hz13_s0, if_neg hc125_13] using k
          show Steps p.tables e below (T2.setTop (mkF m 125 #[.val (.long q0), .second, .val (.long q1), .second, .val (.long q2), .second, .val (.long q3), .second, .val (.long q4), .second, .val (.long q5), .second, .val (.int kk), .val (.ref b1), .val (.long z10_s0), .second, .val (.long z11_s0), .second, .val (.long z12_s0), .second, .unset, .unset, .unset, .unset, .unset, .unset] [(.int (3 : Int32)), (.int kk)])) _
          refine XS.icmpYes X2.here hx rfl (pc0 := 125) (pc' := 133) rfl (hb hby at_125) rfl (feq hc125_13).2 (by decide) (by decide) ?_
          show Steps p.tables e below (T2.setTop (mkF m 133 #[.val (.long q0), .second, .val (.long q1), .second, .val (.long q2), .second, .val (.long q3), .second, .val (.long q4), .second, .val (.long q5), .second, .val (.int kk), .val (.ref b1), .val (.long z10_s0), .second, .val (.long z11_s0), .second, .val (.long z12_s0), .second, .unset, .unset, .unset, .unset, .unset, .unset] [])) _
          refine XS.lload X2.here hx rfl (hb hby at_133) rfl  ?_
          exact k2
      refine Goes.go sm13 ?_
      show Goes p e below s _ _ _ (T2.setTop (mkF m 135 #[.val (.long q0), .second, .val (.long q1), .second, .val (.long q2), .second, .val (.long q3), .second, .val (.long q4), .second, .val (.long q5), .second, .val (.int kk), .val (.ref b1), .val (.long z10_s0), .second, .val (.long z11_s0), .second, .val (.long z12_s0), .second, .unset, .unset, .unset, .unset, .unset, .unset] [(.long z13_s0)]))
      refine Goes.go (fun _ k => XS.lstore X2.here hx rfl (hb hby at_135) rfl (l' := #[.val (.long q0), .second, .val (.long q1), .second, .val (.long q2), .second, .val (.long q3), .second, .val (.long q4), .second, .val (.long q5), .second, .val (.int kk), .val (.ref b1), .val (.long z10_s0), .second, .val (.long z11_s0), .second, .val (.long z12_s0), .second, .val (.long z13_s0), .second, .unset, .unset, .unset, .unset]) rfl k) ?_
      show Goes p e below s _ _ _ (T2.setTop (mkF m 137 #[.val (.long q0), .second, .val (.long q1), .second, .val (.long q2), .second, .val (.long q3), .second, .val (.long q4), .second, .val (.long q5), .second, .val (.int kk), .val (.ref b1), .val (.long z10_s0), .second, .val (.long z11_s0), .second, .val (.long z12_s0), .second, .val (.long z13_s0), .second, .unset, .unset, .unset, .unset] []))
      refine Goes.go (fun _ k => XS.iload X2.here hx rfl (hb hby at_137) rfl  k) ?_
      show Goes p e below s _ _ _ (T2.setTop (mkF m 139 #[.val (.long q0), .second, .val (.long q1), .second, .val (.long q2), .second, .val (.long q3), .second, .val (.long q4), .second, .val (.long q5), .second, .val (.int kk), .val (.ref b1), .val (.long z10_s0), .second, .val (.long z11_s0), .second, .val (.long z12_s0), .second, .val (.long z13_s0), .second, .unset, .unset, .unset, .unset] [(.int kk)]))
      refine Goes.go (fun _ k => XS.iconst X2.here hx rfl (hb hby at_139) k) ?_
      show Goes p e below s _ _ _ (T2.setTop (mkF m 140 #[.val (.long q0), .second, .val (.long q1), .second, .val (.long q2), .second, .val (.long q3), .second, .val (.long q4), .second, .val (.long q5), .second, .val (.int kk), .val (.ref b1), .val (.long z10_s0), .second, .val (.long z11_s0), .second, .val (.long z12_s0), .second, .val (.long z13_s0), .second, .unset, .unset, .unset, .unset] [(.int (4 : Int32)), (.int kk)]))
      obtain ⟨z14_s0, hz14_s0⟩ : ∃ z : Int64, z = if kk = (4 : Int32) then q5 else q4 := ⟨_, rfl⟩
      have sm14 : ∀ t, Steps p.tables e below (T2.setTop (mkF m 150 #[.val (.long q0), .second, .val (.long q1), .second, .val (.long q2), .second, .val (.long q3), .second, .val (.long q4), .second, .val (.long q5), .second, .val (.int kk), .val (.ref b1), .val (.long z10_s0), .second, .val (.long z11_s0), .second, .val (.long z12_s0), .second, .val (.long z13_s0), .second, .unset, .unset, .unset, .unset] [(.long z14_s0)])) t → Steps p.tables e below (T2.setTop (mkF m 140 #[.val (.long q0), .second, .val (.long q1), .second, .val (.long q2), .second, .val (.long q3), .second, .val (.long q4), .second, .val (.long q5), .second, .val (.int kk), .val (.ref b1), .val (.long z10_s0), .second, .val (.long z11_s0), .second, .val (.long z12_s0), .second, .val (.long z13_s0), .second, .unset, .unset, .unset, .unset] [(.int (4 : Int32)), (.int kk)])) t := by
        intro t k
        by_cases hc140_14 : kk = (4 : Int32)
        · have k2 : Steps p.tables e below (T2.setTop (mkF m 150 #[.val (.long q0), .second, .val (.long q1), .second, .val (.long q2), .second, .val (.long q3), .second, .val (.long q4), .second, .val (.long q5), .second, .val (.int kk), .val (.ref b1), .val (.long z10_s0), .second, .val (.long z11_s0), .second, .val (.long z12_s0), .second, .val (.long z13_s0), .second, .unset, .unset, .unset, .unset] [(.long q5)])) t := by simpa only [hz14_s0, if_pos hc140_14] using k
          show Steps p.tables e below (T2.setTop (mkF m 140 #[.val (.long q0), .second, .val (.long q1), .second, .val (.long q2), .second, .val (.long q3), .second, .val (.long q4), .second, .val (.long q5), .second, .val (.int kk), .val (.ref b1), .val (.long z10_s0), .second, .val (.long z11_s0), .second, .val (.long z12_s0), .second, .val (.long z13_s0), .second, .unset, .unset, .unset, .unset] [(.int (4 : Int32)), (.int kk)])) _
          refine XS.icmpNo X2.here hx rfl (hb hby at_140) rfl (teq hc140_14).2 ?_
          show Steps p.tables e below (T2.setTop (mkF m 143 #[.val (.long q0), .second, .val (.long q1), .second, .val (.long q2), .second, .val (.long q3), .second, .val (.long q4), .second, .val (.long q5), .second, .val (.int kk), .val (.ref b1), .val (.long z10_s0), .second, .val (.long z11_s0), .second, .val (.long z12_s0), .second, .val (.long z13_s0), .second, .unset, .unset, .unset, .unset] [])) _
          refine XS.lload X2.here hx rfl (hb hby at_143) rfl  ?_
          show Steps p.tables e below (T2.setTop (mkF m 145 #[.val (.long q0), .second, .val (.long q1), .second, .val (.long q2), .second, .val (.long q3), .second, .val (.long q4), .second, .val (.long q5), .second, .val (.int kk), .val (.ref b1), .val (.long z10_s0), .second, .val (.long z11_s0), .second, .val (.long z12_s0), .second, .val (.long z13_s0), .second, .unset, .unset, .unset, .unset] [(.long q5)])) _
          refine XS.goto X2.here hx rfl (pc0 := 145) (pc' := 150) rfl (hb hby at_145) (by decide) (by decide) ?_
          exact k2
        · have k2 : Steps p.tables e below (T2.setTop (mkF m 150 #[.val (.long q0), .second, .val (.long q1), .second, .val (.long q2), .second, .val (.long q3), .second, .val (.long q4), .second, .val (.long q5), .second, .val (.int kk), .val (.ref b1), .val (.long z10_s0), .second, .val (.long z11_s0), .second, .val (.long z12_s0), .second, .val (.long z13_s0), .second, .unset, .unset, .unset, .unset] [(.long q4)])) t := by simpa only [hz14_s0, if_neg hc140_14] using k
          show Steps p.tables e below (T2.setTop (mkF m 140 #[.val (.long q0), .second, .val (.long q1), .second, .val (.long q2), .second, .val (.long q3), .second, .val (.long q4), .second, .val (.long q5), .second, .val (.int kk), .val (.ref b1), .val (.long z10_s0), .second, .val (.long z11_s0), .second, .val (.long z12_s0), .second, .val (.long z13_s0), .second, .unset, .unset, .unset, .unset] [(.int (4 : Int32)), (.int kk)])) _
          refine XS.icmpYes X2.here hx rfl (pc0 := 140) (pc' := 148) rfl (hb hby at_140) rfl (feq hc140_14).2 (by decide) (by decide) ?_
          show Steps p.tables e below (T2.setTop (mkF m 148 #[.val (.long q0), .second, .val (.long q1), .second, .val (.long q2), .second, .val (.long q3), .second, .val (.long q4), .second, .val (.long q5), .second, .val (.int kk), .val (.ref b1), .val (.long z10_s0), .second, .val (.long z11_s0), .second, .val (.long z12_s0), .second, .val (.long z13_s0), .second, .unset, .unset, .unset, .unset] [])) _
          refine XS.lload X2.here hx rfl (hb hby at_148) rfl  ?_
          exact k2
      refine Goes.go sm14 ?_
      show Goes p e below s _ _ _ (T2.setTop (mkF m 150 #[.val (.long q0), .second, .val (.long q1), .second, .val (.long q2), .second, .val (.long q3), .second, .val (.long q4), .second, .val (.long q5), .second, .val (.int kk), .val (.ref b1), .val (.long z10_s0), .second, .val (.long z11_s0), .second, .val (.long z12_s0), .second, .val (.long z13_s0), .second, .unset, .unset, .unset, .unset] [(.long z14_s0)]))
      refine Goes.go (fun _ k => XS.lstore X2.here hx rfl (hb hby at_150) rfl (l' := #[.val (.long q0), .second, .val (.long q1), .second, .val (.long q2), .second, .val (.long q3), .second, .val (.long q4), .second, .val (.long q5), .second, .val (.int kk), .val (.ref b1), .val (.long z10_s0), .second, .val (.long z11_s0), .second, .val (.long z12_s0), .second, .val (.long z13_s0), .second, .val (.long z14_s0), .second, .unset, .unset]) rfl k) ?_
      show Goes p e below s _ _ _ (T2.setTop (mkF m 152 #[.val (.long q0), .second, .val (.long q1), .second, .val (.long q2), .second, .val (.long q3), .second, .val (.long q4), .second, .val (.long q5), .second, .val (.int kk), .val (.ref b1), .val (.long z10_s0), .second, .val (.long z11_s0), .second, .val (.long z12_s0), .second, .val (.long z13_s0), .second, .val (.long z14_s0), .second, .unset, .unset] []))
      obtain ⟨T15, h15, X15, e15, E15, A15, D15, -, st15⟩ := newO X2 hx hZ hown (hw _ (List.mem_of_getElem? (i := 1) rfl)) (hw _ (List.mem_of_getElem? (i := 2) rfl)) (hw _ (List.mem_of_getElem? (i := 3) rfl)) e2 (g := (mkF m 152 #[.val (.long q0), .second, .val (.long q1), .second, .val (.long q2), .second, .val (.long q3), .second, .val (.long q4), .second, .val (.long q5), .second, .val (.int kk), .val (.ref b1), .val (.long z10_s0), .second, .val (.long z11_s0), .second, .val (.long z12_s0), .second, .val (.long z13_s0), .second, .val (.long z14_s0), .second, .unset, .unset] [])) rfl (hb hby at_152) (by decide) (by decide)
      obtain ⟨b15, g15⟩ : ∃ z, z = h2.size := ⟨_, rfl⟩
      rw [← g15] at A15 D15 st15
      have gb15 : n0 ≤ b15 := Nat.le_trans Z2 (Nat.le_of_eq g15.symm)
      have sb15 : h0.size ≤ b15 := Nat.le_trans K2.1 (Nat.le_of_eq g15.symm)
      have Z15 := Nat.le_trans Z2 E15.1
      have K15 := Keep.ext K2 E15
      have F15_txCount : Fld Z h15 b15 "com/example/outpoint/outpoint/Totals" "txCount" "J" (.long (0 : Int64)) := D15 (Or.inr (hw _ (List.mem_of_getElem? (i := 11) rfl))) (ty := .long) (by decide)
      have F15_fundedCount : Fld Z h15 b15 "com/example/outpoint/outpoint/Totals" "fundedCount" "J" (.long (0 : Int64)) := D15 (Or.inr (hw _ (List.mem_of_getElem? (i := 13) rfl))) (ty := .long) (by decide)
      have F15_fundedSum : Fld Z h15 b15 "com/example/outpoint/outpoint/Totals" "fundedSum" "J" (.long (0 : Int64)) := D15 (Or.inr (hw _ (List.mem_of_getElem? (i := 15) rfl))) (ty := .long) (by decide)
      have F15_spentCount : Fld Z h15 b15 "com/example/outpoint/outpoint/Totals" "spentCount" "J" (.long (0 : Int64)) := D15 (Or.inr (hw _ (List.mem_of_getElem? (i := 17) rfl))) (ty := .long) (by decide)
      have F15_spentSum : Fld Z h15 b15 "com/example/outpoint/outpoint/Totals" "spentSum" "J" (.long (0 : Int64)) := D15 (Or.inr (hw _ (List.mem_of_getElem? (i := 19) rfl))) (ty := .long) (by decide)
      refine Goes.go st15 ?_
      show Goes p e below s _ _ _ (T15.setTop (mkF m 155 #[.val (.long q0), .second, .val (.long q1), .second, .val (.long q2), .second, .val (.long q3), .second, .val (.long q4), .second, .val (.long q5), .second, .val (.int kk), .val (.ref b1), .val (.long z10_s0), .second, .val (.long z11_s0), .second, .val (.long z12_s0), .second, .val (.long z13_s0), .second, .val (.long z14_s0), .second, .unset, .unset] [(.ref b15)]))
      refine Goes.go (fun _ k => XS.dup X15.here hx rfl (hb hby at_155) rfl rfl k) ?_
      show Goes p e below s _ _ _ (T15.setTop (mkF m 156 #[.val (.long q0), .second, .val (.long q1), .second, .val (.long q2), .second, .val (.long q3), .second, .val (.long q4), .second, .val (.long q5), .second, .val (.int kk), .val (.ref b1), .val (.long z10_s0), .second, .val (.long z11_s0), .second, .val (.long z12_s0), .second, .val (.long z13_s0), .second, .val (.long z14_s0), .second, .unset, .unset] [(.ref b15), (.ref b15)]))
      refine Goes.go (fun _ k => XS.lload X15.here hx rfl (hb hby at_156) rfl  k) ?_
      show Goes p e below s _ _ _ (T15.setTop (mkF m 158 #[.val (.long q0), .second, .val (.long q1), .second, .val (.long q2), .second, .val (.long q3), .second, .val (.long q4), .second, .val (.long q5), .second, .val (.int kk), .val (.ref b1), .val (.long z10_s0), .second, .val (.long z11_s0), .second, .val (.long z12_s0), .second, .val (.long z13_s0), .second, .val (.long z14_s0), .second, .unset, .unset] [(.long z10_s0), (.ref b15), (.ref b15)]))
      refine Goes.go (fun _ k => XS.lload X15.here hx rfl (hb hby at_158) rfl  k) ?_
      show Goes p e below s _ _ _ (T15.setTop (mkF m 160 #[.val (.long q0), .second, .val (.long q1), .second, .val (.long q2), .second, .val (.long q3), .second, .val (.long q4), .second, .val (.long q5), .second, .val (.int kk), .val (.ref b1), .val (.long z10_s0), .second, .val (.long z11_s0), .second, .val (.long z12_s0), .second, .val (.long z13_s0), .second, .val (.long z14_s0), .second, .unset, .unset] [(.long z11_s0), (.long z10_s0), (.ref b15), (.ref b15)]))
      refine Goes.go (fun _ k => XS.lload X15.here hx rfl (hb hby at_160) rfl  k) ?_
      show Goes p e below s _ _ _ (T15.setTop (mkF m 162 #[.val (.long q0), .second, .val (.long q1), .second, .val (.long q2), .second, .val (.long q3), .second, .val (.long q4), .second, .val (.long q5), .second, .val (.int kk), .val (.ref b1), .val (.long z10_s0), .second, .val (.long z11_s0), .second, .val (.long z12_s0), .second, .val (.long z13_s0), .second, .val (.long z14_s0), .second, .unset, .unset] [(.long z12_s0), (.long z11_s0), (.long z10_s0), (.ref b15), (.ref b15)]))
      refine Goes.go (fun _ k => XS.lload X15.here hx rfl (hb hby at_162) rfl  k) ?_
      show Goes p e below s _ _ _ (T15.setTop (mkF m 164 #[.val (.long q0), .second, .val (.long q1), .second, .val (.long q2), .second, .val (.long q3), .second, .val (.long q4), .second, .val (.long q5), .second, .val (.int kk), .val (.ref b1), .val (.long z10_s0), .second, .val (.long z11_s0), .second, .val (.long z12_s0), .second, .val (.long z13_s0), .second, .val (.long z14_s0), .second, .unset, .unset] [(.long z13_s0), (.long z12_s0), (.long z11_s0), (.long z10_s0), (.ref b15), (.ref b15)]))
      refine Goes.go (fun _ k => XS.lload X15.here hx rfl (hb hby at_164) rfl  k) ?_
      show Goes p e below s _ _ _ (T15.setTop (mkF m 166 #[.val (.long q0), .second, .val (.long q1), .second, .val (.long q2), .second, .val (.long q3), .second, .val (.long q4), .second, .val (.long q5), .second, .val (.int kk), .val (.ref b1), .val (.long z10_s0), .second, .val (.long z11_s0), .second, .val (.long z12_s0), .second, .val (.long z13_s0), .second, .val (.long z14_s0), .second, .unset, .unset] [(.long z14_s0), (.long z13_s0), (.long z12_s0), (.long z11_s0), (.long z10_s0), (.ref b15), (.ref b15)]))
      obtain ⟨_, _, ⟨T16, L16, k16, n16⟩, -, X16, ⟨Lc16, hQ16, l16, y16, z16⟩, st16⟩ := X15.specialBack hx (y := (⟨"com/example/outpoint/outpoint/Totals", "<init>", "(JJJJJ)V"⟩ : MethodName)) rfl hown (mvT hZ (hw _ (List.mem_of_getElem? (i := 4) rfl))) (mvT hZ (hw _ (List.mem_of_getElem? (i := 5) rfl))) (mvT hZ (hw _ (List.mem_of_getElem? (i := 6) rfl))) (by decide) (backOf (W := 1) (rm1 l Z a0 hw [] b15 z10_s0 z11_s0 z12_s0 z13_s0 z14_s0 h15 n0 Z15 A15 gb15 F15_txCount F15_fundedCount F15_fundedSum F15_spentCount F15_spentSum) hZ (hw _ (List.mem_of_getElem? (i := 6) rfl)) (hw _ (List.mem_of_getElem? (i := 3) rfl)) (by decide) (by decide)) (g := (mkF m 166 #[.val (.long q0), .second, .val (.long q1), .second, .val (.long q2), .second, .val (.long q3), .second, .val (.long q4), .second, .val (.long q5), .second, .val (.int kk), .val (.ref b1), .val (.long z10_s0), .second, .val (.long z11_s0), .second, .val (.long z12_s0), .second, .val (.long z13_s0), .second, .val (.long z14_s0), .second, .unset, .unset] [(.long z14_s0), (.long z13_s0), (.long z12_s0), (.long z11_s0), (.long z10_s0), (.ref b15), (.ref b15)])) rfl (by rw [hml]; rfl) (Steps.refl _) (a := b15) (argsL := [(.long z10_s0), (.long z11_s0), (.long z12_s0), (.long z13_s0), (.long z14_s0)]) (rest := [(.ref b15)]) (lenOf pd_3 rfl) rfl (by show 2 * 0 + _ ≤ _; exact Nat.le_of_eq rfl) (hb hby at_166) (fun _ _ => ⟨rfl, e15, (by decide : 2 + 0 ≤ _), (by decide : 10 + 0 ≤ _)⟩)
      dsimp only [Pt.U, Pt.locs, Pt.cells, Pt.slots] at X16 l16 y16 z16 st16 hQ16
      subst l16 y16 z16
      obtain ⟨h16, e16⟩ : ∃ z, T16.heap = z := ⟨_, rfl⟩
      rw [e16] at hQ16
      obtain ⟨rfl, N16q, Kq16, G16_0, G16_1, G16_2, G16_3, G16_4, G16_5⟩ := hQ16
      have N16 := Fr.app N2 N16q
      have K16 := Keep.trans K15 Kq16 (allS (Or.inr sb15) all0)
      have Z16 := Nat.le_trans Z15 Kq16.1
      refine Goes.tr st16 ?_
      show Goes p e below s _ _ _ (T16.setTop (mkF m 169 #[.val (.long q0), .second, .val (.long q1), .second, .val (.long q2), .second, .val (.long q3), .second, .val (.long q4), .second, .val (.long q5), .second, .val (.int kk), .val (.ref b1), .val (.long z10_s0), .second, .val (.long z11_s0), .second, .val (.long z12_s0), .second, .val (.long z13_s0), .second, .val (.long z14_s0), .second, .unset, .unset] [(.ref b15)]))
      refine Goes.go (fun _ k => XS.astore X16.here hx rfl (hb hby at_169) rfl rfl (l' := #[.val (.long q0), .second, .val (.long q1), .second, .val (.long q2), .second, .val (.long q3), .second, .val (.long q4), .second, .val (.long q5), .second, .val (.int kk), .val (.ref b1), .val (.long z10_s0), .second, .val (.long z11_s0), .second, .val (.long z12_s0), .second, .val (.long z13_s0), .second, .val (.long z14_s0), .second, .val (.ref b15), .unset]) rfl k) ?_
      show Goes p e below s _ _ _ (T16.setTop (mkF m 171 #[.val (.long q0), .second, .val (.long q1), .second, .val (.long q2), .second, .val (.long q3), .second, .val (.long q4), .second, .val (.long q5), .second, .val (.int kk), .val (.ref b1), .val (.long z10_s0), .second, .val (.long z11_s0), .second, .val (.long z12_s0), .second, .val (.long z13_s0), .second, .val (.long z14_s0), .second, .val (.ref b15), .unset] []))
      refine Goes.go (fun _ k => XS.lloadN X16.here hx rfl (hb hby at_171) rfl  k) ?_
      show Goes p e below s _ _ _ (T16.setTop (mkF m 172 #[.val (.long q0), .second, .val (.long q1), .second, .val (.long q2), .second, .val (.long q3), .second, .val (.long q4), .second, .val (.long q5), .second, .val (.int kk), .val (.ref b1), .val (.long z10_s0), .second, .val (.long z11_s0), .second, .val (.long z12_s0), .second, .val (.long z13_s0), .second, .val (.long z14_s0), .second, .val (.ref b15), .unset] [(.long q0)]))
      refine Goes.go (fun _ k => XS.lload X16.here hx rfl (hb hby at_172) rfl  k) ?_
      show Goes p e below s _ _ _ (T16.setTop (mkF m 174 #[.val (.long q0), .second, .val (.long q1), .second, .val (.long q2), .second, .val (.long q3), .second, .val (.long q4), .second, .val (.long q5), .second, .val (.int kk), .val (.ref b1), .val (.long z10_s0), .second, .val (.long z11_s0), .second, .val (.long z12_s0), .second, .val (.long z13_s0), .second, .val (.long z14_s0), .second, .val (.ref b15), .unset] [(.long z10_s0), (.long q0)]))
      refine Goes.go (fun _ k => XS.lcmp X16.here hx rfl (hb hby at_174) rfl k) ?_
      show Goes p e below s _ _ _ (T16.setTop (mkF m 175 #[.val (.long q0), .second, .val (.long q1), .second, .val (.long q2), .second, .val (.long q3), .second, .val (.long q4), .second, .val (.long q5), .second, .val (.int kk), .val (.ref b1), .val (.long z10_s0), .second, .val (.long z11_s0), .second, .val (.long z12_s0), .second, .val (.long z13_s0), .second, .val (.long z14_s0), .second, .val (.ref b15), .unset] [(.int (lcmpW q0 z10_s0))]))
      obtain ⟨z17_s0, hz17_s0⟩ : ∃ z : Int32, z = if q0 = z10_s0 then (if q1 = z11_s0 then (if q2 = z12_s0 then (if q3 = z13_s0 then (if q4 = z14_s0 then (1 : Int32) else (0 : Int32)) else (0 : Int32)) else (0 : Int32)) else (0 : Int32)) else (0 : Int32) := ⟨_, rfl⟩
      have sm17 : ∀ t, Steps p.tables e below (T16.setTop (mkF m 214 #[.val (.long q0), .second, .val (.long q1), .second, .val (.long q2), .second, .val (.long q3), .second, .val (.long q4), .second, .val (.long q5), .second, .val (.int kk), .val (.ref b1), .val (.long z10_s0), .second, .val (.long z11_s0), .second, .val (.long z12_s0), .second, .val (.long z13_s0), .second, .val (.long z14_s0), .second, .val (.ref b15), .unset] [(.int z17_s0)])) t → Steps p.tables e below (T16.setTop (mkF m 175 #[.val (.long q0), .second, .val (.long q1), .second, .val (.long q2), .second, .val (.long q3), .second, .val (.long q4), .second, .val (.long q5), .second, .val (.int kk), .val (.ref b1), .val (.long z10_s0), .second, .val (.long z11_s0), .second, .val (.long z12_s0), .second, .val (.long z13_s0), .second, .val (.long z14_s0), .second, .val (.ref b15), .unset] [(.int (lcmpW q0 z10_s0))])) t := by
        intro t k
        by_cases hc175_17 : q0 = z10_s0
        · have k2 : Steps p.tables e below (T16.setTop (mkF m 214 #[.val (.long q0), .second, .val (.long q1), .second, .val (.long q2), .second, .val (.long q3), .second, .val (.long q4), .second, .val (.long q5), .second, .val (.int kk), .val (.ref b1), .val (.long z10_s0), .second, .val (.long z11_s0), .second, .val (.long z12_s0), .second, .val (.long z13_s0), .second, .val (.long z14_s0), .second, .val (.ref b15), .unset] [(.int (if q1 = z11_s0 then (if q2 = z12_s0 then (if q3 = z13_s0 then (if q4 = z14_s0 then (1 : Int32) else (0 : Int32)) else (0 : Int32)) else (0 : Int32)) else (0 : Int32)))])) t := by simpa only [hz17_s0, if_pos hc175_17] using k
          show Steps p.tables e below (T16.setTop (mkF m 175 #[.val (.long q0), .second, .val (.long q1), .second, .val (.long q2), .second, .val (.long q3), .second, .val (.long q4), .second, .val (.long q5), .second, .val (.int kk), .val (.ref b1), .val (.long z10_s0), .second, .val (.long z11_s0), .second, .val (.long z12_s0), .second, .val (.long z13_s0), .second, .val (.long z14_s0), .second, .val (.ref b15), .unset] [(.int (lcmpW q0 z10_s0))])) _
          refine XS.ifNo X16.here hx rfl (hb hby at_175) rfl ((if0 _ _).trans (teq ((lw_eq q0 z10_s0).mpr hc175_17)).2) ?_
          show Steps p.tables e below (T16.setTop (mkF m 178 #[.val (.long q0), .second, .val (.long q1), .second, .val (.long q2), .second, .val (.long q3), .second, .val (.long q4), .second, .val (.long q5), .second, .val (.int kk), .val (.ref b1), .val (.long z10_s0), .second, .val (.long z11_s0), .second, .val (.long z12_s0), .second, .val (.long z13_s0), .second, .val (.long z14_s0), .second, .val (.ref b15), .unset] [])) _
          refine XS.lloadN X16.here hx rfl (hb hby at_178) rfl  ?_
          show Steps p.tables e below (T16.setTop (mkF m 179 #[.val (.long q0), .second, .val (.long q1), .second, .val (.long q2), .second, .val (.long q3), .second, .val (.long q4), .second, .val (.long q5), .second, .val (.int kk), .val (.ref b1), .val (.long z10_s0), .second, .val (.long z11_s0), .second, .val (.long z12_s0), .second, .val (.long z13_s0), .second, .val (.long z14_s0), .second, .val (.ref b15), .unset] [(.long q1)])) _
          refine XS.lload X16.here hx rfl (hb hby at_179) rfl  ?_
          show Steps p.tables e below (T16.setTop (mkF m 181 #[.val (.long q0), .second, .val (.long q1), .second, .val (.long q2), .second, .val (.long q3), .second, .val (.long q4), .second, .val (.long q5), .second, .val (.int kk), .val (.ref b1), .val (.long z10_s0), .second, .val (.long z11_s0), .second, .val (.long z12_s0), .second, .val (.long z13_s0), .second, .val (.long z14_s0), .second, .val (.ref b15), .unset] [(.long z11_s0), (.long q1)])) _
          refine XS.lcmp X16.here hx rfl (hb hby at_181) rfl ?_
          show Steps p.tables e below (T16.setTop (mkF m 182 #[.val (.long q0), .second, .val (.long q1), .second, .val (.long q2), .second, .val (.long q3), .second, .val (.long q4), .second, .val (.long q5), .second, .val (.int kk), .val (.ref b1), .val (.long z10_s0), .second, .val (.long z11_s0), .second, .val (.long z12_s0), .second, .val (.long z13_s0), .second, .val (.long z14_s0), .second, .val (.ref b15), .unset] [(.int (lcmpW q1 z11_s0))])) _
          have sm18 : ∀ t, Steps p.tables e below (T16.setTop (mkF m 214 #[.val (.long q0), .second, .val (.long q1), .second, .val (.long q2), .second, .val (.long q3), .second, .val (.long q4), .second, .val (.long q5), .second, .val (.int kk), .val (.ref b1), .val (.long z10_s0), .second, .val (.long z11_s0), .second, .val (.long z12_s0), .second, .val (.long z13_s0), .second, .val (.long z14_s0), .second, .val (.ref b15), .unset] [(.int (if q1 = z11_s0 then (if q2 = z12_s0 then (if q3 = z13_s0 then (if q4 = z14_s0 then (1 : Int32) else (0 : Int32)) else (0 : Int32)) else (0 : Int32)) else (0 : Int32)))])) t → Steps p.tables e below (T16.setTop (mkF m 182 #[.val (.long q0), .second, .val (.long q1), .second, .val (.long q2), .second, .val (.long q3), .second, .val (.long q4), .second, .val (.long q5), .second, .val (.int kk), .val (.ref b1), .val (.long z10_s0), .second, .val (.long z11_s0), .second, .val (.long z12_s0), .second, .val (.long z13_s0), .second, .val (.long z14_s0), .second, .val (.ref b15), .unset] [(.int (lcmpW q1 z11_s0))])) t := by
            intro t k
            by_cases hc182_18 : q1 = z11_s0
            · have k2 : Steps p.tables e below (T16.setTop (mkF m 214 #[.val (.long q0), .second, .val (.long q1), .second, .val (.long q2), .second, .val (.long q3), .second, .val (.long q4), .second, .val (.long q5), .second, .val (.int kk), .val (.ref b1), .val (.long z10_s0), .second, .val (.long z11_s0), .second, .val (.long z12_s0), .second, .val (.long z13_s0), .second, .val (.long z14_s0), .second, .val (.ref b15), .unset] [(.int (if q2 = z12_s0 then (if q3 = z13_s0 then (if q4 = z14_s0 then (1 : Int32) else (0 : Int32)) else (0 : Int32)) else (0 : Int32)))])) t := by simpa only [if_pos hc182_18] using k
              show Steps p.tables e below (T16.setTop (mkF m 182 #[.val (.long q0), .second, .val (.long q1), .second, .val (.long q2), .second, .val (.long q3), .second, .val (.long q4), .second, .val (.long q5), .second, .val (.int kk), .val (.ref b1), .val (.long z10_s0), .second, .val (.long z11_s0), .second, .val (.long z12_s0), .second, .val (.long z13_s0), .second, .val (.long z14_s0), .second, .val (.ref b15), .unset] [(.int (lcmpW q1 z11_s0))])) _
              refine XS.ifNo X16.here hx rfl (hb hby at_182) rfl ((if0 _ _).trans (teq ((lw_eq q1 z11_s0).mpr hc182_18)).2) ?_
              show Steps p.tables e below (T16.setTop (mkF m 185 #[.val (.long q0), .second, .val (.long q1), .second, .val (.long q2), .second, .val (.long q3), .second, .val (.long q4), .second, .val (.long q5), .second, .val (.int kk), .val (.ref b1), .val (.long z10_s0), .second, .val (.long z11_s0), .second, .val (.long z12_s0), .second, .val (.long z13_s0), .second, .val (.long z14_s0), .second, .val (.ref b15), .unset] [])) _
              refine XS.lload X16.here hx rfl (hb hby at_185) rfl  ?_
              show Steps p.tables e below (T16.setTop (mkF m 187 #[.val (.long q0), .second, .val (.long q1), .second, .val (.long q2), .second, .val (.long q3), .second, .val (.long q4), .second, .val (.long q5), .second, .val (.int kk), .val (.ref b1), .val (.long z10_s0), .second, .val (.long z11_s0), .second, .val (.long z12_s0), .second, .val (.long z13_s0), .second, .val (.long z14_s0), .second, .val (.ref b15), .unset] [(.long q2)])) _
              refine XS.lload X16.here hx rfl (hb hby at_187) rfl  ?_
              show Steps p.tables e below (T16.setTop (mkF m 189 #[.val (.long q0), .second, .val (.long q1), .second, .val (.long q2), .second, .val (.long q3), .second, .val (.long q4), .second, .val (.long q5), .second, .val (.int kk), .val (.ref b1), .val (.long z10_s0), .second, .val (.long z11_s0), .second, .val (.long z12_s0), .second, .val (.long z13_s0), .second, .val (.long z14_s0), .second, .val (.ref b15), .unset] [(.long z12_s0), (.long q2)])) _
              refine XS.lcmp X16.here hx rfl (hb hby at_189) rfl ?_
              show Steps p.tables e below (T16.setTop (mkF m 190 #[.val (.long q0), .second, .val (.long q1), .second, .val (.long q2), .second, .val (.long q3), .second, .val (.long q4), .second, .val (.long q5), .second, .val (.int kk), .val (.ref b1), .val (.long z10_s0), .second, .val (.long z11_s0), .second, .val (.long z12_s0), .second, .val (.long z13_s0), .second, .val (.long z14_s0), .second, .val (.ref b15), .unset] [(.int (lcmpW q2 z12_s0))])) _
              have sm19 : ∀ t, Steps p.tables e below (T16.setTop (mkF m 214 #[.val (.long q0), .second, .val (.long q1), .second, .val (.long q2), .second, .val (.long q3), .second, .val (.long q4), .second, .val (.long q5), .second, .val (.int kk), .val (.ref b1), .val (.long z10_s0), .second, .val (.long z11_s0), .second, .val (.long z12_s0), .second, .val (.long z13_s0), .second, .val (.long z14_s0), .second, .val (.ref b15), .unset] [(.int (if q2 = z12_s0 then (if q3 = z13_s0 then (if q4 = z14_s0 then (1 : Int32) else (0 : Int32)) else (0 : Int32)) else (0 : Int32)))])) t → Steps p.tables e below (T16.setTop (mkF m 190 #[.val (.long q0), .second, .val (.long q1), .second, .val (.long q2), .second, .val (.long q3), .second, .val (.long q4), .second, .val (.long q5), .second, .val (.int kk), .val (.ref b1), .val (.long z10_s0), .second, .val (.long z11_s0), .second, .val (.long z12_s0), .second, .val (.long z13_s0), .second, .val (.long z14_s0), .second, .val (.ref b15), .unset] [(.int (lcmpW q2 z12_s0))])) t := by
                intro t k
                by_cases hc190_19 : q2 = z12_s0
                · have k2 : Steps p.tables e below (T16.setTop (mkF m 214 #[.val (.long q0), .second, .val (.long q1), .second, .val (.long q2), .second, .val (.long q3), .second, .val (.long q4), .second, .val (.long q5), .second, .val (.int kk), .val (.ref b1), .val (.long z10_s0), .second, .val (.long z11_s0), .second, .val (.long z12_s0), .second, .val (.long z13_s0), .second, .val (.long z14_s0), .second, .val (.ref b15), .unset] [(.int (if q3 = z13_s0 then (if q4 = z14_s0 then (1 : Int32) else (0 : Int32)) else (0 : Int32)))])) t := by simpa only [if_pos hc190_19] using k
                  show Steps p.tables e below (T16.setTop (mkF m 190 #[.val (.long q0), .second, .val (.long q1), .second, .val (.long q2), .second, .val (.long q3), .second, .val (.long q4), .second, .val (.long q5), .second, .val (.int kk), .val (.ref b1), .val (.long z10_s0), .second, .val (.long z11_s0), .second, .val (.long z12_s0), .second, .val (.long z13_s0), .second, .val (.long z14_s0), .second, .val (.ref b15), .unset] [(.int (lcmpW q2 z12_s0))])) _
                  refine XS.ifNo X16.here hx rfl (hb hby at_190) rfl ((if0 _ _).trans (teq ((lw_eq q2 z12_s0).mpr hc190_19)).2) ?_
                  show Steps p.tables e below (T16.setTop (mkF m 193 #[.val (.long q0), .second, .val (.long q1), .second, .val (.long q2), .second, .val (.long q3), .second, .val (.long q4), .second, .val (.long q5), .second, .val (.int kk), .val (.ref b1), .val (.long z10_s0), .second, .val (.long z11_s0), .second, .val (.long z12_s0), .second, .val (.long z13_s0), .second, .val (.long z14_s0), .second, .val (.ref b15), .unset] [])) _
                  refine XS.lload X16.here hx rfl (hb hby at_193) rfl  ?_
                  show Steps p.tables e below (T16.setTop (mkF m 195 #[.val (.long q0), .second, .val (.long q1), .second, .val (.long q2), .second, .val (.long q3), .second, .val (.long q4), .second, .val (.long q5), .second, .val (.int kk), .val (.ref b1), .val (.long z10_s0), .second, .val (.long z11_s0), .second, .val (.long z12_s0), .second, .val (.long z13_s0), .second, .val (.long z14_s0), .second, .val (.ref b15), .unset] [(.long q3)])) _
                  refine XS.lload X16.here hx rfl (hb hby at_195) rfl  ?_
                  show Steps p.tables e below (T16.setTop (mkF m 197 #[.val (.long q0), .second, .val (.long q1), .second, .val (.long q2), .second, .val (.long q3), .second, .val (.long q4), .second, .val (.long q5), .second, .val (.int kk), .val (.ref b1), .val (.long z10_s0), .second, .val (.long z11_s0), .second, .val (.long z12_s0), .second, .val (.long z13_s0), .second, .val (.long z14_s0), .second, .val (.ref b15), .unset] [(.long z13_s0), (.long q3)])) _
                  refine XS.lcmp X16.here hx rfl (hb hby at_197) rfl ?_
                  show Steps p.tables e below (T16.setTop (mkF m 198 #[.val (.long q0), .second, .val (.long q1), .second, .val (.long q2), .second, .val (.long q3), .second, .val (.long q4), .second, .val (.long q5), .second, .val (.int kk), .val (.ref b1), .val (.long z10_s0), .second, .val (.long z11_s0), .second, .val (.long z12_s0), .second, .val (.long z13_s0), .second, .val (.long z14_s0), .second, .val (.ref b15), .unset] [(.int (lcmpW q3 z13_s0))])) _
                  have sm20 : ∀ t, Steps p.tables e below (T16.setTop (mkF m 214 #[.val (.long q0), .second, .val (.long q1), .second, .val (.long q2), .second, .val (.long q3), .second, .val (.long q4), .second, .val (.long q5), .second, .val (.int kk), .val (.ref b1), .val (.long z10_s0), .second, .val (.long z11_s0), .second, .val (.long z12_s0), .second, .val (.long z13_s0), .second, .val (.long z14_s0), .second, .val (.ref b15), .unset] [(.int (if q3 = z13_s0 then (if q4 = z14_s0 then (1 : Int32) else (0 : Int32)) else (0 : Int32)))])) t → Steps p.tables e below (T16.setTop (mkF m 198 #[.val (.long q0), .second, .val (.long q1), .second, .val (.long q2), .second, .val (.long q3), .second, .val (.long q4), .second, .val (.long q5), .second, .val (.int kk), .val (.ref b1), .val (.long z10_s0), .second, .val (.long z11_s0), .second, .val (.long z12_s0), .second, .val (.long z13_s0), .second, .val (.long z14_s0), .second, .val (.ref b15), .unset] [(.int (lcmpW q3 z13_s0))])) t := by
                    intro t k
                    by_cases hc198_20 : q3 = z13_s0
                    · have k2 : Steps p.tables e below (T16.setTop (mkF m 214 #[.val (.long q0), .second, .val (.long q1), .second, .val (.long q2), .second, .val (.long q3), .second, .val (.long q4), .second, .val (.long q5), .second, .val (.int kk), .val (.ref b1), .val (.long z10_s0), .second, .val (.long z11_s0), .second, .val (.long z12_s0), .second, .val (.long z13_s0), .second, .val (.long z14_s0), .second, .val (.ref b15), .unset] [(.int (if q4 = z14_s0 then (1 : Int32) else (0 : Int32)))])) t := by simpa only [if_pos hc198_20] using k
                      show Steps p.tables e below (T16.setTop (mkF m 198 #[.val (.long q0), .second, .val (.long q1), .second, .val (.long q2), .second, .val (.long q3), .second, .val (.long q4), .second, .val (.long q5), .second, .val (.int kk), .val (.ref b1), .val (.long z10_s0), .second, .val (.long z11_s0), .second, .val (.long z12_s0), .second, .val (.long z13_s0), .second, .val (.long z14_s0), .second, .val (.ref b15), .unset] [(.int (lcmpW q3 z13_s0))])) _
                      refine XS.ifNo X16.here hx rfl (hb hby at_198) rfl ((if0 _ _).trans (teq ((lw_eq q3 z13_s0).mpr hc198_20)).2) ?_
                      show Steps p.tables e below (T16.setTop (mkF m 201 #[.val (.long q0), .second, .val (.long q1), .second, .val (.long q2), .second, .val (.long q3), .second, .val (.long q4), .second, .val (.long q5), .second, .val (.int kk), .val (.ref b1), .val (.long z10_s0), .second, .val (.long z11_s0), .second, .val (.long z12_s0), .second, .val (.long z13_s0), .second, .val (.long z14_s0), .second, .val (.ref b15), .unset] [])) _
                      refine XS.lload X16.here hx rfl (hb hby at_201) rfl  ?_
                      show Steps p.tables e below (T16.setTop (mkF m 203 #[.val (.long q0), .second, .val (.long q1), .second, .val (.long q2), .second, .val (.long q3), .second, .val (.long q4), .second, .val (.long q5), .second, .val (.int kk), .val (.ref b1), .val (.long z10_s0), .second, .val (.long z11_s0), .second, .val (.long z12_s0), .second, .val (.long z13_s0), .second, .val (.long z14_s0), .second, .val (.ref b15), .unset] [(.long q4)])) _
                      refine XS.lload X16.here hx rfl (hb hby at_203) rfl  ?_
                      show Steps p.tables e below (T16.setTop (mkF m 205 #[.val (.long q0), .second, .val (.long q1), .second, .val (.long q2), .second, .val (.long q3), .second, .val (.long q4), .second, .val (.long q5), .second, .val (.int kk), .val (.ref b1), .val (.long z10_s0), .second, .val (.long z11_s0), .second, .val (.long z12_s0), .second, .val (.long z13_s0), .second, .val (.long z14_s0), .second, .val (.ref b15), .unset] [(.long z14_s0), (.long q4)])) _
                      refine XS.lcmp X16.here hx rfl (hb hby at_205) rfl ?_
                      show Steps p.tables e below (T16.setTop (mkF m 206 #[.val (.long q0), .second, .val (.long q1), .second, .val (.long q2), .second, .val (.long q3), .second, .val (.long q4), .second, .val (.long q5), .second, .val (.int kk), .val (.ref b1), .val (.long z10_s0), .second, .val (.long z11_s0), .second, .val (.long z12_s0), .second, .val (.long z13_s0), .second, .val (.long z14_s0), .second, .val (.ref b15), .unset] [(.int (lcmpW q4 z14_s0))])) _
                      have sm21 : ∀ t, Steps p.tables e below (T16.setTop (mkF m 214 #[.val (.long q0), .second, .val (.long q1), .second, .val (.long q2), .second, .val (.long q3), .second, .val (.long q4), .second, .val (.long q5), .second, .val (.int kk), .val (.ref b1), .val (.long z10_s0), .second, .val (.long z11_s0), .second, .val (.long z12_s0), .second, .val (.long z13_s0), .second, .val (.long z14_s0), .second, .val (.ref b15), .unset] [(.int (if q4 = z14_s0 then (1 : Int32) else (0 : Int32)))])) t → Steps p.tables e below (T16.setTop (mkF m 206 #[.val (.long q0), .second, .val (.long q1), .second, .val (.long q2), .second, .val (.long q3), .second, .val (.long q4), .second, .val (.long q5), .second, .val (.int kk), .val (.ref b1), .val (.long z10_s0), .second, .val (.long z11_s0), .second, .val (.long z12_s0), .second, .val (.long z13_s0), .second, .val (.long z14_s0), .second, .val (.ref b15), .unset] [(.int (lcmpW q4 z14_s0))])) t := by
                        intro t k
                        by_cases hc206_21 : q4 = z14_s0
                        · have k2 : Steps p.tables e below (T16.setTop (mkF m 214 #[.val (.long q0), .second, .val (.long q1), .second, .val (.long q2), .second, .val (.long q3), .second, .val (.long q4), .second, .val (.long q5), .second, .val (.int kk), .val (.ref b1), .val (.long z10_s0), .second, .val (.long z11_s0), .second, .val (.long z12_s0), .second, .val (.long z13_s0), .second, .val (.long z14_s0), .second, .val (.ref b15), .unset] [(.int (1 : Int32))])) t := by simpa only [if_pos hc206_21] using k
                          show Steps p.tables e below (T16.setTop (mkF m 206 #[.val (.long q0), .second, .val (.long q1), .second, .val (.long q2), .second, .val (.long q3), .second, .val (.long q4), .second, .val (.long q5), .second, .val (.int kk), .val (.ref b1), .val (.long z10_s0), .second, .val (.long z11_s0), .second, .val (.long z12_s0), .second, .val (.long z13_s0), .second, .val (.long z14_s0), .second, .val (.ref b15), .unset] [(.int (lcmpW q4 z14_s0))])) _
                          refine XS.ifNo X16.here hx rfl (hb hby at_206) rfl ((if0 _ _).trans (teq ((lw_eq q4 z14_s0).mpr hc206_21)).2) ?_
                          show Steps p.tables e below (T16.setTop (mkF m 209 #[.val (.long q0), .second, .val (.long q1), .second, .val (.long q2), .second, .val (.long q3), .second, .val (.long q4), .second, .val (.long q5), .second, .val (.int kk), .val (.ref b1), .val (.long z10_s0), .second, .val (.long z11_s0), .second, .val (.long z12_s0), .second, .val (.long z13_s0), .second, .val (.long z14_s0), .second, .val (.ref b15), .unset] [])) _
                          refine XS.iconst X16.here hx rfl (hb hby at_209) ?_
                          show Steps p.tables e below (T16.setTop (mkF m 210 #[.val (.long q0), .second, .val (.long q1), .second, .val (.long q2), .second, .val (.long q3), .second, .val (.long q4), .second, .val (.long q5), .second, .val (.int kk), .val (.ref b1), .val (.long z10_s0), .second, .val (.long z11_s0), .second, .val (.long z12_s0), .second, .val (.long z13_s0), .second, .val (.long z14_s0), .second, .val (.ref b15), .unset] [(.int (1 : Int32))])) _
                          refine XS.goto X16.here hx rfl (pc0 := 210) (pc' := 214) rfl (hb hby at_210) (by decide) (by decide) ?_
                          exact k2
                        · have k2 : Steps p.tables e below (T16.setTop (mkF m 214 #[.val (.long q0), .second, .val (.long q1), .second, .val (.long q2), .second, .val (.long q3), .second, .val (.long q4), .second, .val (.long q5), .second, .val (.int kk), .val (.ref b1), .val (.long z10_s0), .second, .val (.long z11_s0), .second, .val (.long z12_s0), .second, .val (.long z13_s0), .second, .val (.long z14_s0), .second, .val (.ref b15), .unset] [(.int (0 : Int32))])) t := by simpa only [if_neg hc206_21] using k
                          show Steps p.tables e below (T16.setTop (mkF m 206 #[.val (.long q0), .second, .val (.long q1), .second, .val (.long q2), .second, .val (.long q3), .second, .val (.long q4), .second, .val (.long q5), .second, .val (.int kk), .val (.ref b1), .val (.long z10_s0), .second, .val (.long z11_s0), .second, .val (.long z12_s0), .second, .val (.long z13_s0), .second, .val (.long z14_s0), .second, .val (.ref b15), .unset] [(.int (lcmpW q4 z14_s0))])) _
                          refine XS.ifYes X16.here hx rfl (pc0 := 206) (pc' := 213) rfl (hb hby at_206) rfl ((if0 _ _).trans (feq (mt (lw_eq q4 z14_s0).mp hc206_21)).2) (by decide) (by decide) ?_
                          show Steps p.tables e below (T16.setTop (mkF m 213 #[.val (.long q0), .second, .val (.long q1), .second, .val (.long q2), .second, .val (.long q3), .second, .val (.long q4), .second, .val (.long q5), .second, .val (.int kk), .val (.ref b1), .val (.long z10_s0), .second, .val (.long z11_s0), .second, .val (.long z12_s0), .second, .val (.long z13_s0), .second, .val (.long z14_s0), .second, .val (.ref b15), .unset] [])) _
                          refine XS.iconst X16.here hx rfl (hb hby at_213) ?_
                          exact k2
                      refine sm21 _ ?_
                      exact k2
                    · have k2 : Steps p.tables e below (T16.setTop (mkF m 214 #[.val (.long q0), .second, .val (.long q1), .second, .val (.long q2), .second, .val (.long q3), .second, .val (.long q4), .second, .val (.long q5), .second, .val (.int kk), .val (.ref b1), .val (.long z10_s0), .second, .val (.long z11_s0), .second, .val (.long z12_s0), .second, .val (.long z13_s0), .second, .val (.long z14_s0), .second, .val (.ref b15), .unset] [(.int (0 : Int32))])) t := by simpa only [if_neg hc198_20] using k
                      show Steps p.tables e below (T16.setTop (mkF m 198 #[.val (.long q0), .second, .val (.long q1), .second, .val (.long q2), .second, .val (.long q3), .second, .val (.long q4), .second, .val (.long q5), .second, .val (.int kk), .val (.ref b1), .val (.long z10_s0), .second, .val (.long z11_s0), .second, .val (.long z12_s0), .second, .val (.long z13_s0), .second, .val (.long z14_s0), .second, .val (.ref b15), .unset] [(.int (lcmpW q3 z13_s0))])) _
                      refine XS.ifYes X16.here hx rfl (pc0 := 198) (pc' := 213) rfl (hb hby at_198) rfl ((if0 _ _).trans (feq (mt (lw_eq q3 z13_s0).mp hc198_20)).2) (by decide) (by decide) ?_
                      show Steps p.tables e below (T16.setTop (mkF m 213 #[.val (.long q0), .second, .val (.long q1), .second, .val (.long q2), .second, .val (.long q3), .second, .val (.long q4), .second, .val (.long q5), .second, .val (.int kk), .val (.ref b1), .val (.long z10_s0), .second, .val (.long z11_s0), .second, .val (.long z12_s0), .second, .val (.long z13_s0), .second, .val (.long z14_s0), .second, .val (.ref b15), .unset] [])) _
                      refine XS.iconst X16.here hx rfl (hb hby at_213) ?_
                      exact k2
                  refine sm20 _ ?_
                  exact k2
                · have k2 : Steps p.tables e below (T16.setTop (mkF m 214 #[.val (.long q0), .second, .val (.long q1), .second, .val (.long q2), .second, .val (.long q3), .second, .val (.long q4), .second, .val (.long q5), .second, .val (.int kk), .val (.ref b1), .val (.long z10_s0), .second, .val (.long z11_s0), .second, .val (.long z12_s0), .second, .val (.long z13_s0), .second, .val (.long z14_s0), .second, .val (.ref b15), .unset] [(.int (0 : Int32))])) t := by simpa only [if_neg hc190_19] using k
                  show Steps p.tables e below (T16.setTop (mkF m 190 #[.val (.long q0), .second, .val (.long q1), .second, .val (.long q2), .second, .val (.long q3), .second, .val (.long q4), .second, .val (.long q5), .second, .val (.int kk), .val (.ref b1), .val (.long z10_s0), .second, .val (.long z11_s0), .second, .val (.long z12_s0), .second, .val (.long z13_s0), .second, .val (.long z14_s0), .second, .val (.ref b15), .unset] [(.int (lcmpW q2 z12_s0))])) _
                  refine XS.ifYes X16.here hx rfl (pc0 := 190) (pc' := 213) rfl (hb hby at_190) rfl ((if0 _ _).trans (feq (mt (lw_eq q2 z12_s0).mp hc190_19)).2) (by decide) (by decide) ?_
                  show Steps p.tables e below (T16.setTop (mkF m 213 #[.val (.long q0), .second, .val (.long q1), .second, .val (.long q2), .second, .val (.long q3), .second, .val (.long q4), .second, .val (.long q5), .second, .val (.int kk), .val (.ref b1), .val (.long z10_s0), .second, .val (.long z11_s0), .second, .val (.long z12_s0), .second, .val (.long z13_s0), .second, .val (.long z14_s0), .second, .val (.ref b15), .unset] [])) _
                  refine XS.iconst X16.here hx rfl (hb hby at_213) ?_
                  exact k2
              refine sm19 _ ?_
              exact k2
            · have k2 : Steps p.tables e below (T16.setTop (mkF m 214 #[.val (.long q0), .second, .val (.long q1), .second, .val (.long q2), .second, .val (.long q3), .second, .val (.long q4), .second, .val (.long q5), .second, .val (.int kk), .val (.ref b1), .val (.long z10_s0), .second, .val (.long z11_s0), .second, .val (.long z12_s0), .second, .val (.long z13_s0), .second, .val (.long z14_s0), .second, .val (.ref b15), .unset] [(.int (0 : Int32))])) t := by simpa only [if_neg hc182_18] using k
              show Steps p.tables e below (T16.setTop (mkF m 182 #[.val (.long q0), .second, .val (.long q1), .second, .val (.long q2), .second, .val (.long q3), .second, .val (.long q4), .second, .val (.long q5), .second, .val (.int kk), .val (.ref b1), .val (.long z10_s0), .second, .val (.long z11_s0), .second, .val (.long z12_s0), .second, .val (.long z13_s0), .second, .val (.long z14_s0), .second, .val (.ref b15), .unset] [(.int (lcmpW q1 z11_s0))])) _
              refine XS.ifYes X16.here hx rfl (pc0 := 182) (pc' := 213) rfl (hb hby at_182) rfl ((if0 _ _).trans (feq (mt (lw_eq q1 z11_s0).mp hc182_18)).2) (by decide) (by decide) ?_
              show Steps p.tables e below (T16.setTop (mkF m 213 #[.val (.long q0), .second, .val (.long q1), .second, .val (.long q2), .second, .val (.long q3), .second, .val (.long q4), .second, .val (.long q5), .second, .val (.int kk), .val (.ref b1), .val (.long z10_s0), .second, .val (.long z11_s0), .second, .val (.long z12_s0), .second, .val (.long z13_s0), .second, .val (.long z14_s0), .second, .val (.ref b15), .unset] [])) _
              refine XS.iconst X16.here hx rfl (hb hby at_213) ?_
              exact k2
          refine sm18 _ ?_
          exact k2
        · have k2 : Steps p.tables e below (T16.setTop (mkF m 214 #[.val (.long q0), .second, .val (.long q1), .second, .val (.long q2), .second, .val (.long q3), .second, .val (.long q4), .second, .val (.long q5), .second, .val (.int kk), .val (.ref b1), .val (.long z10_s0), .second, .val (.long z11_s0), .second, .val (.long z12_s0), .second, .val (.long z13_s0), .second, .val (.long z14_s0), .second, .val (.ref b15), .unset] [(.int (0 : Int32))])) t := by simpa only [hz17_s0, if_neg hc175_17] using k
          show Steps p.tables e below (T16.setTop (mkF m 175 #[.val (.long q0), .second, .val (.long q1), .second, .val (.long q2), .second, .val (.long q3), .second, .val (.long q4), .second, .val (.long q5), .second, .val (.int kk), .val (.ref b1), .val (.long z10_s0), .second, .val (.long z11_s0), .second, .val (.long z12_s0), .second, .val (.long z13_s0), .second, .val (.long z14_s0), .second, .val (.ref b15), .unset] [(.int (lcmpW q0 z10_s0))])) _
          refine XS.ifYes X16.here hx rfl (pc0 := 175) (pc' := 213) rfl (hb hby at_175) rfl ((if0 _ _).trans (feq (mt (lw_eq q0 z10_s0).mp hc175_17)).2) (by decide) (by decide) ?_
          show Steps p.tables e below (T16.setTop (mkF m 213 #[.val (.long q0), .second, .val (.long q1), .second, .val (.long q2), .second, .val (.long q3), .second, .val (.long q4), .second, .val (.long q5), .second, .val (.int kk), .val (.ref b1), .val (.long z10_s0), .second, .val (.long z11_s0), .second, .val (.long z12_s0), .second, .val (.long z13_s0), .second, .val (.long z14_s0), .second, .val (.ref b15), .unset] [])) _
          refine XS.iconst X16.here hx rfl (hb hby at_213) ?_
          exact k2
      refine Goes.go sm17 ?_
      show Goes p e below s _ _ _ (T16.setTop (mkF m 214 #[.val (.long q0), .second, .val (.long q1), .second, .val (.long q2), .second, .val (.long q3), .second, .val (.long q4), .second, .val (.long q5), .second, .val (.int kk), .val (.ref b1), .val (.long z10_s0), .second, .val (.long z11_s0), .second, .val (.long z12_s0), .second, .val (.long z13_s0), .second, .val (.long z14_s0), .second, .val (.ref b15), .unset] [(.int z17_s0)]))
      refine Goes.go (fun _ k => XS.istore X16.here hx rfl (hb hby at_214) rfl (l' := #[.val (.long q0), .second, .val (.long q1), .second, .val (.long q2), .second, .val (.long q3), .second, .val (.long q4), .second, .val (.long q5), .second, .val (.int kk), .val (.ref b1), .val (.long z10_s0), .second, .val (.long z11_s0), .second, .val (.long z12_s0), .second, .val (.long z13_s0), .second, .val (.long z14_s0), .second, .val (.ref b15), .val (.int z17_s0)]) rfl k) ?_
      show Goes p e below s _ _ _ (T16.setTop (mkF m 216 #[.val (.long q0), .second, .val (.long q1), .second, .val (.long q2), .second, .val (.long q3), .second, .val (.long q4), .second, .val (.long q5), .second, .val (.int kk), .val (.ref b1), .val (.long z10_s0), .second, .val (.long z11_s0), .second, .val (.long z12_s0), .second, .val (.long z13_s0), .second, .val (.long z14_s0), .second, .val (.ref b15), .val (.int z17_s0)] []))
      refine Goes.go (fun _ k => XS.aload X16.here hx rfl (hb hby at_216) rfl rfl  k) ?_
      show Goes p e below s _ _ _ (T16.setTop (mkF m 218 #[.val (.long q0), .second, .val (.long q1), .second, .val (.long q2), .second, .val (.long q3), .second, .val (.long q4), .second, .val (.long q5), .second, .val (.int kk), .val (.ref b1), .val (.long z10_s0), .second, .val (.long z11_s0), .second, .val (.long z12_s0), .second, .val (.long z13_s0), .second, .val (.long z14_s0), .second, .val (.ref b15), .val (.int z17_s0)] [(.ref b1)]))
      refine Goes.go (fun _ k => XS.aload X16.here hx rfl (hb hby at_218) rfl rfl  k) ?_
      show Goes p e below s _ _ _ (T16.setTop (mkF m 220 #[.val (.long q0), .second, .val (.long q1), .second, .val (.long q2), .second, .val (.long q3), .second, .val (.long q4), .second, .val (.long q5), .second, .val (.int kk), .val (.ref b1), .val (.long z10_s0), .second, .val (.long z11_s0), .second, .val (.long z12_s0), .second, .val (.long z13_s0), .second, .val (.long z14_s0), .second, .val (.ref b15), .val (.int z17_s0)] [(.ref b15), (.ref b1)]))
      obtain ⟨cq22, kq22, q22a, q22b, q22c⟩ := isOf hZ e16 ((G2_0.ext E15).keep Kq16)
      obtain ⟨_, _, ⟨T22, L22, k22, n22⟩, -, X22, ⟨Lc22, hQ22, l22, y22, z22⟩, st22⟩ := X16.virtualBack hx (y := (⟨"com/example/outpoint/outpoint/Totals", "equals", "(Ljava/lang/Object;)Z"⟩ : MethodName)) (z := (⟨"com/example/outpoint/outpoint/Totals", "equals", "(Ljava/lang/Object;)Z"⟩ : MethodName)) hown (mvT hZ (hw _ (List.mem_of_getElem? (i := 20) rfl))) (mvT hZ (hw _ (List.mem_of_getElem? (i := 21) rfl))) (notFace_of_selects (args := #[]) (mvT hZ (hw _ (List.mem_of_getElem? (i := 23) rfl)))) (mvT hZ (hw _ (List.mem_of_getElem? (i := 23) rfl))) (mvT hZ (hw _ (List.mem_of_getElem? (i := 22) rfl))) (by decide) (backOf (W := 0) (rm3 l Z a0 hw [] b1 b15 q0 q1 q2 q3 q4 z10_s0 z11_s0 z12_s0 z13_s0 z14_s0 h16 n0 Z16 G16_0 ((G2_1.ext E15).keep Kq16 (ninS (Nat.ne_of_lt (Nat.lt_of_lt_of_le G2_0.lt (Nat.le_of_eq g15.symm))) nin0)) ((G2_2.ext E15).keep Kq16 (ninS (Nat.ne_of_lt (Nat.lt_of_lt_of_le G2_0.lt (Nat.le_of_eq g15.symm))) nin0)) ((G2_3.ext E15).keep Kq16 (ninS (Nat.ne_of_lt (Nat.lt_of_lt_of_le G2_0.lt (Nat.le_of_eq g15.symm))) nin0)) ((G2_4.ext E15).keep Kq16 (ninS (Nat.ne_of_lt (Nat.lt_of_lt_of_le G2_0.lt (Nat.le_of_eq g15.symm))) nin0)) ((G2_5.ext E15).keep Kq16 (ninS (Nat.ne_of_lt (Nat.lt_of_lt_of_le G2_0.lt (Nat.le_of_eq g15.symm))) nin0)) G16_1 G16_2 G16_3 G16_4 G16_5) hZ (hw _ (List.mem_of_getElem? (i := 24) rfl)) (hw _ (List.mem_of_getElem? (i := 3) rfl)) (by decide) (by decide)) q22a q22c (g := (mkF m 220 #[.val (.long q0), .second, .val (.long q1), .second, .val (.long q2), .second, .val (.long q3), .second, .val (.long q4), .second, .val (.long q5), .second, .val (.int kk), .val (.ref b1), .val (.long z10_s0), .second, .val (.long z11_s0), .second, .val (.long z12_s0), .second, .val (.long z13_s0), .second, .val (.long z14_s0), .second, .val (.ref b15), .val (.int z17_s0)] [(.ref b15), (.ref b1)])) rfl (by rw [hml]; rfl) (Steps.refl _) (argsL := [(.ref b15)]) (rest := []) (lenOf pd_4 rfl) rfl (by show 2 * 0 + _ ≤ _; exact Nat.le_of_eq rfl) (hb hby at_220) (fun _ _ => ⟨rfl, e16, (by decide : 2 + 0 ≤ _), (by decide : 10 + 0 ≤ _)⟩)
      dsimp only [Pt.U, Pt.locs, Pt.cells, Pt.slots] at X22 l22 y22 z22 st22 hQ22
      subst l22 y22 z22
      obtain ⟨rfl, N22q, e22⟩ := hQ22
      have N22 := Fr.app N16 N22q
      refine Goes.tr st22 ?_
      show Goes p e below s _ _ _ (T22.setTop (mkF m 223 #[.val (.long q0), .second, .val (.long q1), .second, .val (.long q2), .second, .val (.long q3), .second, .val (.long q4), .second, .val (.long q5), .second, .val (.int kk), .val (.ref b1), .val (.long z10_s0), .second, .val (.long z11_s0), .second, .val (.long z12_s0), .second, .val (.long z13_s0), .second, .val (.long z14_s0), .second, .val (.ref b15), .val (.int z17_s0)] [(.int (f3 b1 b15 q0 q1 q2 q3 q4 z10_s0 z11_s0 z12_s0 z13_s0 z14_s0))]))
      refine Goes.go (fun _ k => XS.iload X22.here hx rfl (hb hby at_223) rfl  k) ?_
      show Goes p e below s _ _ _ (T22.setTop (mkF m 225 #[.val (.long q0), .second, .val (.long q1), .second, .val (.long q2), .second, .val (.long q3), .second, .val (.long q4), .second, .val (.long q5), .second, .val (.int kk), .val (.ref b1), .val (.long z10_s0), .second, .val (.long z11_s0), .second, .val (.long z12_s0), .second, .val (.long z13_s0), .second, .val (.long z14_s0), .second, .val (.ref b15), .val (.int z17_s0)] [(.int z17_s0), (.int (f3 b1 b15 q0 q1 q2 q3 q4 z10_s0 z11_s0 z12_s0 z13_s0 z14_s0))]))
      have hc225_23 : (f3 b1 b15 q0 q1 q2 q3 q4 z10_s0 z11_s0 z12_s0 z13_s0 z14_s0) = z17_s0 := by rw [hz17_s0]; exact own_f3 _ _ _ _ _ _ _ _ _ _ _ _
      refine Goes.go (fun _ k => XS.icmpNo X22.here hx rfl (hb hby at_225) rfl (teq hc225_23).2 k) ?_
      show Goes p e below s _ _ _ (T22.setTop (mkF m 228 #[.val (.long q0), .second, .val (.long q1), .second, .val (.long q2), .second, .val (.long q3), .second, .val (.long q4), .second, .val (.long q5), .second, .val (.int kk), .val (.ref b1), .val (.long z10_s0), .second, .val (.long z11_s0), .second, .val (.long z12_s0), .second, .val (.long z13_s0), .second, .val (.long z14_s0), .second, .val (.ref b15), .val (.int z17_s0)] []))
      refine Goes.go (fun _ k => XS.aload X22.here hx rfl (hb hby at_228) rfl rfl  k) ?_
      show Goes p e below s _ _ _ (T22.setTop (mkF m 230 #[.val (.long q0), .second, .val (.long q1), .second, .val (.long q2), .second, .val (.long q3), .second, .val (.long q4), .second, .val (.long q5), .second, .val (.int kk), .val (.ref b1), .val (.long z10_s0), .second, .val (.long z11_s0), .second, .val (.long z12_s0), .second, .val (.long z13_s0), .second, .val (.long z14_s0), .second, .val (.ref b15), .val (.int z17_s0)] [(.ref b15)]))
      refine Goes.go (fun _ k => XS.aload X22.here hx rfl (hb hby at_230) rfl rfl  k) ?_
      show Goes p e below s _ _ _ (T22.setTop (mkF m 232 #[.val (.long q0), .second, .val (.long q1), .second, .val (.long q2), .second, .val (.long q3), .second, .val (.long q4), .second, .val (.long q5), .second, .val (.int kk), .val (.ref b1), .val (.long z10_s0), .second, .val (.long z11_s0), .second, .val (.long z12_s0), .second, .val (.long z13_s0), .second, .val (.long z14_s0), .second, .val (.ref b15), .val (.int z17_s0)] [(.ref b1), (.ref b15)]))
      obtain ⟨cq24, kq24, q24a, q24b, q24c⟩ := isOf hZ e22 G16_0
      obtain ⟨_, _, ⟨T24, L24, k24, n24⟩, -, X24, ⟨Lc24, hQ24, l24, y24, z24⟩, st24⟩ := X22.virtualBack hx (y := (⟨"com/example/outpoint/outpoint/Totals", "equals", "(Ljava/lang/Object;)Z"⟩ : MethodName)) (z := (⟨"com/example/outpoint/outpoint/Totals", "equals", "(Ljava/lang/Object;)Z"⟩ : MethodName)) hown (mvT hZ (hw _ (List.mem_of_getElem? (i := 20) rfl))) (mvT hZ (hw _ (List.mem_of_getElem? (i := 21) rfl))) (notFace_of_selects (args := #[]) (mvT hZ (hw _ (List.mem_of_getElem? (i := 23) rfl)))) (mvT hZ (hw _ (List.mem_of_getElem? (i := 23) rfl))) (mvT hZ (hw _ (List.mem_of_getElem? (i := 22) rfl))) (by decide) (backOf (W := 0) (rm3 l Z a0 hw [] b15 b1 z10_s0 z11_s0 z12_s0 z13_s0 z14_s0 q0 q1 q2 q3 q4 h16 n0 Z16 ((G2_0.ext E15).keep Kq16) G16_1 G16_2 G16_3 G16_4 G16_5 ((G2_1.ext E15).keep Kq16 (ninS (Nat.ne_of_lt (Nat.lt_of_lt_of_le G2_0.lt (Nat.le_of_eq g15.symm))) nin0)) ((G2_2.ext E15).keep Kq16 (ninS (Nat.ne_of_lt (Nat.lt_of_lt_of_le G2_0.lt (Nat.le_of_eq g15.symm))) nin0)) ((G2_3.ext E15).keep Kq16 (ninS (Nat.ne_of_lt (Nat.lt_of_lt_of_le G2_0.lt (Nat.le_of_eq g15.symm))) nin0)) ((G2_4.ext E15).keep Kq16 (ninS (Nat.ne_of_lt (Nat.lt_of_lt_of_le G2_0.lt (Nat.le_of_eq g15.symm))) nin0)) ((G2_5.ext E15).keep Kq16 (ninS (Nat.ne_of_lt (Nat.lt_of_lt_of_le G2_0.lt (Nat.le_of_eq g15.symm))) nin0))) hZ (hw _ (List.mem_of_getElem? (i := 24) rfl)) (hw _ (List.mem_of_getElem? (i := 3) rfl)) (by decide) (by decide)) q24a q24c (g := (mkF m 232 #[.val (.long q0), .second, .val (.long q1), .second, .val (.long q2), .second, .val (.long q3), .second, .val (.long q4), .second, .val (.long q5), .second, .val (.int kk), .val (.ref b1), .val (.long z10_s0), .second, .val (.long z11_s0), .second, .val (.long z12_s0), .second, .val (.long z13_s0), .second, .val (.long z14_s0), .second, .val (.ref b15), .val (.int z17_s0)] [(.ref b1), (.ref b15)])) rfl (by rw [hml]; rfl) (Steps.refl _) (argsL := [(.ref b1)]) (rest := []) (lenOf pd_4 rfl) rfl (by show 2 * 0 + _ ≤ _; exact Nat.le_of_eq rfl) (hb hby at_232) (fun _ _ => ⟨rfl, e22, (by decide : 2 + 0 ≤ _), (by decide : 10 + 0 ≤ _)⟩)
      dsimp only [Pt.U, Pt.locs, Pt.cells, Pt.slots] at X24 l24 y24 z24 st24 hQ24
      subst l24 y24 z24
      obtain ⟨rfl, N24q, e24⟩ := hQ24
      have N24 := Fr.app N22 N24q
      refine Goes.tr st24 ?_
      show Goes p e below s _ _ _ (T24.setTop (mkF m 235 #[.val (.long q0), .second, .val (.long q1), .second, .val (.long q2), .second, .val (.long q3), .second, .val (.long q4), .second, .val (.long q5), .second, .val (.int kk), .val (.ref b1), .val (.long z10_s0), .second, .val (.long z11_s0), .second, .val (.long z12_s0), .second, .val (.long z13_s0), .second, .val (.long z14_s0), .second, .val (.ref b15), .val (.int z17_s0)] [(.int (f3 b15 b1 z10_s0 z11_s0 z12_s0 z13_s0 z14_s0 q0 q1 q2 q3 q4))]))
      refine Goes.go (fun _ k => XS.iload X24.here hx rfl (hb hby at_235) rfl  k) ?_
      show Goes p e below s _ _ _ (T24.setTop (mkF m 237 #[.val (.long q0), .second, .val (.long q1), .second, .val (.long q2), .second, .val (.long q3), .second, .val (.long q4), .second, .val (.long q5), .second, .val (.int kk), .val (.ref b1), .val (.long z10_s0), .second, .val (.long z11_s0), .second, .val (.long z12_s0), .second, .val (.long z13_s0), .second, .val (.long z14_s0), .second, .val (.ref b15), .val (.int z17_s0)] [(.int z17_s0), (.int (f3 b15 b1 z10_s0 z11_s0 z12_s0 z13_s0 z14_s0 q0 q1 q2 q3 q4))]))
      have hc237_25 : (f3 b15 b1 z10_s0 z11_s0 z12_s0 z13_s0 z14_s0 q0 q1 q2 q3 q4) = z17_s0 := by rw [hz17_s0]; exact own_f3s _ _ _ _ _ _ _ _ _ _ _ _
      refine Goes.go (fun _ k => XS.icmpNo X24.here hx rfl (hb hby at_237) rfl (teq hc237_25).2 k) ?_
      show Goes p e below s _ _ _ (T24.setTop (mkF m 240 #[.val (.long q0), .second, .val (.long q1), .second, .val (.long q2), .second, .val (.long q3), .second, .val (.long q4), .second, .val (.long q5), .second, .val (.int kk), .val (.ref b1), .val (.long z10_s0), .second, .val (.long z11_s0), .second, .val (.long z12_s0), .second, .val (.long z13_s0), .second, .val (.long z14_s0), .second, .val (.ref b15), .val (.int z17_s0)] []))
      refine Goes.go (fun _ k => XS.aload X24.here hx rfl (hb hby at_240) rfl rfl  k) ?_
      show Goes p e below s _ _ _ (T24.setTop (mkF m 242 #[.val (.long q0), .second, .val (.long q1), .second, .val (.long q2), .second, .val (.long q3), .second, .val (.long q4), .second, .val (.long q5), .second, .val (.int kk), .val (.ref b1), .val (.long z10_s0), .second, .val (.long z11_s0), .second, .val (.long z12_s0), .second, .val (.long z13_s0), .second, .val (.long z14_s0), .second, .val (.ref b15), .val (.int z17_s0)] [(.ref b1)]))
      refine Goes.go (fun _ k => XS.aload X24.here hx rfl (hb hby at_242) rfl rfl  k) ?_
      show Goes p e below s _ _ _ (T24.setTop (mkF m 244 #[.val (.long q0), .second, .val (.long q1), .second, .val (.long q2), .second, .val (.long q3), .second, .val (.long q4), .second, .val (.long q5), .second, .val (.int kk), .val (.ref b1), .val (.long z10_s0), .second, .val (.long z11_s0), .second, .val (.long z12_s0), .second, .val (.long z13_s0), .second, .val (.long z14_s0), .second, .val (.ref b15), .val (.int z17_s0)] [(.ref b1), (.ref b1)]))
      obtain ⟨cq26, kq26, q26a, q26b, q26c⟩ := isOf hZ e24 ((G2_0.ext E15).keep Kq16)
      obtain ⟨_, _, ⟨T26, L26, k26, n26⟩, -, X26, ⟨Lc26, hQ26, l26, y26, z26⟩, st26⟩ := X24.virtualBack hx (y := (⟨"com/example/outpoint/outpoint/Totals", "equals", "(Ljava/lang/Object;)Z"⟩ : MethodName)) (z := (⟨"com/example/outpoint/outpoint/Totals", "equals", "(Ljava/lang/Object;)Z"⟩ : MethodName)) hown (mvT hZ (hw _ (List.mem_of_getElem? (i := 20) rfl))) (mvT hZ (hw _ (List.mem_of_getElem? (i := 21) rfl))) (notFace_of_selects (args := #[]) (mvT hZ (hw _ (List.mem_of_getElem? (i := 23) rfl)))) (mvT hZ (hw _ (List.mem_of_getElem? (i := 23) rfl))) (mvT hZ (hw _ (List.mem_of_getElem? (i := 22) rfl))) (by decide) (backOf (W := 0) (rm3 l Z a0 hw [] b1 b1 q0 q1 q2 q3 q4 q0 q1 q2 q3 q4 h16 n0 Z16 ((G2_0.ext E15).keep Kq16) ((G2_1.ext E15).keep Kq16 (ninS (Nat.ne_of_lt (Nat.lt_of_lt_of_le G2_0.lt (Nat.le_of_eq g15.symm))) nin0)) ((G2_2.ext E15).keep Kq16 (ninS (Nat.ne_of_lt (Nat.lt_of_lt_of_le G2_0.lt (Nat.le_of_eq g15.symm))) nin0)) ((G2_3.ext E15).keep Kq16 (ninS (Nat.ne_of_lt (Nat.lt_of_lt_of_le G2_0.lt (Nat.le_of_eq g15.symm))) nin0)) ((G2_4.ext E15).keep Kq16 (ninS (Nat.ne_of_lt (Nat.lt_of_lt_of_le G2_0.lt (Nat.le_of_eq g15.symm))) nin0)) ((G2_5.ext E15).keep Kq16 (ninS (Nat.ne_of_lt (Nat.lt_of_lt_of_le G2_0.lt (Nat.le_of_eq g15.symm))) nin0)) ((G2_1.ext E15).keep Kq16 (ninS (Nat.ne_of_lt (Nat.lt_of_lt_of_le G2_0.lt (Nat.le_of_eq g15.symm))) nin0)) ((G2_2.ext E15).keep Kq16 (ninS (Nat.ne_of_lt (Nat.lt_of_lt_of_le G2_0.lt (Nat.le_of_eq g15.symm))) nin0)) ((G2_3.ext E15).keep Kq16 (ninS (Nat.ne_of_lt (Nat.lt_of_lt_of_le G2_0.lt (Nat.le_of_eq g15.symm))) nin0)) ((G2_4.ext E15).keep Kq16 (ninS (Nat.ne_of_lt (Nat.lt_of_lt_of_le G2_0.lt (Nat.le_of_eq g15.symm))) nin0)) ((G2_5.ext E15).keep Kq16 (ninS (Nat.ne_of_lt (Nat.lt_of_lt_of_le G2_0.lt (Nat.le_of_eq g15.symm))) nin0))) hZ (hw _ (List.mem_of_getElem? (i := 24) rfl)) (hw _ (List.mem_of_getElem? (i := 3) rfl)) (by decide) (by decide)) q26a q26c (g := (mkF m 244 #[.val (.long q0), .second, .val (.long q1), .second, .val (.long q2), .second, .val (.long q3), .second, .val (.long q4), .second, .val (.long q5), .second, .val (.int kk), .val (.ref b1), .val (.long z10_s0), .second, .val (.long z11_s0), .second, .val (.long z12_s0), .second, .val (.long z13_s0), .second, .val (.long z14_s0), .second, .val (.ref b15), .val (.int z17_s0)] [(.ref b1), (.ref b1)])) rfl (by rw [hml]; rfl) (Steps.refl _) (argsL := [(.ref b1)]) (rest := []) (lenOf pd_4 rfl) rfl (by show 2 * 0 + _ ≤ _; exact Nat.le_of_eq rfl) (hb hby at_244) (fun _ _ => ⟨rfl, e24, (by decide : 2 + 0 ≤ _), (by decide : 10 + 0 ≤ _)⟩)
      dsimp only [Pt.U, Pt.locs, Pt.cells, Pt.slots] at X26 l26 y26 z26 st26 hQ26
      subst l26 y26 z26
      obtain ⟨rfl, N26q, e26⟩ := hQ26
      have N26 := Fr.app N24 N26q
      refine Goes.tr st26 ?_
      show Goes p e below s _ _ _ (T26.setTop (mkF m 247 #[.val (.long q0), .second, .val (.long q1), .second, .val (.long q2), .second, .val (.long q3), .second, .val (.long q4), .second, .val (.long q5), .second, .val (.int kk), .val (.ref b1), .val (.long z10_s0), .second, .val (.long z11_s0), .second, .val (.long z12_s0), .second, .val (.long z13_s0), .second, .val (.long z14_s0), .second, .val (.ref b15), .val (.int z17_s0)] [(.int (f3 b1 b1 q0 q1 q2 q3 q4 q0 q1 q2 q3 q4))]))
      have hc247_27 : ¬ ((f3 b1 b1 q0 q1 q2 q3 q4 q0 q1 q2 q3 q4) = (0 : Int32)) := own_self _ _ _ _ _ _ _
      refine Goes.go (fun _ k => XS.ifNo X26.here hx rfl (hb hby at_247) rfl ((if0 _ _).trans (feq hc247_27).1) k) ?_
      show Goes p e below s _ _ _ (T26.setTop (mkF m 250 #[.val (.long q0), .second, .val (.long q1), .second, .val (.long q2), .second, .val (.long q3), .second, .val (.long q4), .second, .val (.long q5), .second, .val (.int kk), .val (.ref b1), .val (.long z10_s0), .second, .val (.long z11_s0), .second, .val (.long z12_s0), .second, .val (.long z13_s0), .second, .val (.long z14_s0), .second, .val (.ref b15), .val (.int z17_s0)] []))
      refine Goes.go (fun _ k => XS.iconst X26.here hx rfl (hb hby at_250) k) ?_
      show Goes p e below s _ _ _ (T26.setTop (mkF m 251 #[.val (.long q0), .second, .val (.long q1), .second, .val (.long q2), .second, .val (.long q3), .second, .val (.long q4), .second, .val (.long q5), .second, .val (.int kk), .val (.ref b1), .val (.long z10_s0), .second, .val (.long z11_s0), .second, .val (.long z12_s0), .second, .val (.long z13_s0), .second, .val (.long z14_s0), .second, .val (.ref b15), .val (.int z17_s0)] [(.int (1 : Int32))]))
      refine Goes.go (fun _ k => XS.goto X26.here hx rfl (pc0 := 251) (pc' := 255) rfl (hb hby at_251) (by decide) (by decide) k) ?_
      show Goes p e below s _ _ _ (T26.setTop (mkF m 255 #[.val (.long q0), .second, .val (.long q1), .second, .val (.long q2), .second, .val (.long q3), .second, .val (.long q4), .second, .val (.long q5), .second, .val (.int kk), .val (.ref b1), .val (.long z10_s0), .second, .val (.long z11_s0), .second, .val (.long z12_s0), .second, .val (.long z13_s0), .second, .val (.long z14_s0), .second, .val (.ref b15), .val (.int z17_s0)] [(.int (1 : Int32))]))
      refine Goes.retN .boolean X26 hx hlk Bd.returns (by simp) (hb hby at_255) ?_ (by decide) (by decide)
      exact ⟨rfl, N26⟩
set_option maxRecDepth 65536 in
set_option maxHeartbeats 40000000 in
theorem comes_1 {Post : Tables → Env → Array Value → State → Outcome → State → Prop} (hpost : ∀ tb e args s v u, (limb_1_1.after args s (.returned v) u = true ∧ limb_1_2.after args s (.returned v) u = true ∧ True) → FrameEnd s (.returned v) u (Jvm.fieldLocs frame_1_writes args s ++ Jvm.arrayLocs frame_1_arrays args s ++ Jvm.staticLocs frame_1_statics s) 16 128 → Post tb e args s (.returned v) u) :
    ArmFor flags0 classFile x code maxLocals ret World_1 tables_1 room_1 Calls_1 rest_1 Pre_1 Post := by
  intro l hfl _ _ p e ha hc hk s m args below hf hA hF happ hP
  obtain ⟨hcalls, hrest, hpre⟩ := hP
  obtain ⟨-, -, -, hnamed, -, -, -, hat⟩ := (Spec.applies_iff hf).mp happ
  obtain ⟨hg, hn⟩ := and_e (Cond.before_iff.mp (show (Jvm.Cond.and given_1 narrow_1).before args s = true from hpre))
  obtain ⟨gc, gr0⟩ := and_e hg
  obtain ⟨w0, w1, w2, w3, w4, w5, rfl⟩ : ∃ w0 w1 w2 w3 w4 w5 : Value, args = #[w0, w1, w2, w3, w4, w5] := by
    have hs : args.size = 6 := by simpa [Cond.value, given_1] using gc
    obtain ⟨L⟩ := args
    match L, hs with
    | [w0, w1, w2, w3, w4, w5], _ => exact ⟨w0, w1, w2, w3, w4, w5, rfl⟩
  have hw := fun d (hd : d ∈ tables_1) => atoms_spec (ws := Jvm.Cond.code x code maxLocals ret :: tables_1) hat d (List.mem_cons_of_mem _ hd)
  have hfit : Fit s := fun {y c} hc i hi => by
    obtain ⟨ha, rfl⟩ := Array.getElem?_eq_some_iff.mp hc
    have q := List.all_eq_true.mp ((Array.all_eq_true_iff_forall_mem.mp hF) _ (Array.getElem_mem ha)) i (List.mem_range.mpr hi)
    simpa [Array.getElem?_eq_getElem hi] using q
  obtain ⟨hsets, hown0⟩ := atoms_of _ (rest_1_c_eq ▸ (show rest_1_c.before _ s = true from hrest))
  obtain ⟨ga0, gr1⟩ := and_e gr0
  obtain ⟨i0, ei0⟩ := isL_v ga0
  obtain rfl : w0 = (.long i0) := Option.some.inj ei0
  obtain ⟨ga1, gr2⟩ := and_e gr1
  obtain ⟨i1, ei1⟩ := isL_v ga1
  obtain rfl : w1 = (.long i1) := Option.some.inj ei1
  obtain ⟨ga2, gr3⟩ := and_e gr2
  obtain ⟨i2, ei2⟩ := isL_v ga2
  obtain rfl : w2 = (.long i2) := Option.some.inj ei2
  obtain ⟨ga3, gr4⟩ := and_e gr3
  obtain ⟨i3, ei3⟩ := isL_v ga3
  obtain rfl : w3 = (.long i3) := Option.some.inj ei3
  obtain ⟨ga4, gr5⟩ := and_e gr4
  obtain ⟨i4, ei4⟩ := isL_v ga4
  obtain rfl : w4 = (.long i4) := Option.some.inj ei4
  obtain ⟨i5, ei5⟩ := isL_v gr5
  obtain rfl : w5 = (.long i5) := Option.some.inj ei5
  obtain ⟨ccs, ecs⟩ := is_v (Cond.before_iff.mp (hsets _ (List.mem_of_getElem? (i := 1) rfl)))
  have S_cs : Sta s s.heap "java/lang/String" "COMPACT_STRINGS" "Z" (.int ccs) := Sta.start ecs (Or.inl (hsets _ (List.mem_of_getElem? (i := 0) rfl)))
  have hcs : ¬ (ccs = (0 : Int32)) := gotF (Cond.eq_ints ecs (Term.int_eval (0))) (not_v (Cond.before_iff.mp (hsets _ (List.mem_of_getElem? (i := 2) rfl))))
  obtain ⟨n, o, h1, h2, h3, _, L, rfl, ⟨rfl, N⟩, hq⟩ := rm0 l s _ hw tables_1 i0 i1 i2 i3 i4 i5 ccs s.heap s.heap.size (Nat.le_refl _) S_cs hcs p e ha hc hk s m _ below hf ((Spec.applies_iff_loose hf).mp happ).1 ⟨rfl, State.Warmed39.refl s, rfl⟩ trivial
  refine ⟨n, _, h1, h2, h3, hpost _ _ _ _ _ _ ⟨Cond.after_iff.mpr rfl, Cond.after_iff.mpr (eq_i res_at (Term.int_eval (1)) rfl), trivial⟩ ⟨hq.1, hq.2.1, (hq.2.2.sift fun y hy => Or.inr (N y hy)).mono (by decide) (by decide)⟩⟩
theorem main_1_1 : Claimed_1_1 := comes_1 fun _ _ _ _ _ _ h hF => ⟨h.1, hF⟩
theorem main_1_2 : Claimed_1_2 := comes_1 fun _ _ _ _ _ _ h hF => ⟨h.2.1, hF⟩
end Jvm.Pilot.@@N@@
namespace Jvm.Pilot.@@N@@
open Jvm Jvm.ClassFile Sem Op Lib Jvm.Free Jvm.Stand Jvm.Pilot.@@N@@.Jvm.D
/-! MADE BY PROGRAM (witnessworld.py) out of the Statement's table words and the real class files: 17 classes; the members and pool entries that the words name. The judged class is class 1, her method 1. -/
namespace start1
open Jvm.ClassFile
def u (s : String) : CpInfo := .utf8 (stringToUtf16 s)
/-- a pool by its gaps: so many unusable entries, then the entry; so many at the end -/
def gap : Nat → List CpInfo → List CpInfo
  | 0, r => r
  | n + 1, r => .unusable :: gap n r
def poolList (es : List (Nat × CpInfo)) (last : Nat) : List CpInfo := es.foldr (fun e r => gap e.1 (e.2 :: r)) (gap last [])
def pool (es : List (Nat × CpInfo)) (last : Nat) : Array CpInfo := ⟨poolList es last⟩
def fileOf (pool : Array CpInfo) (this : Nat) (attrs : Array Attribute := #[]) (ms : Array MethodInfo := #[]) (fl : Nat := 33) (sup : Nat := 0) (ifs : Array Nat := #[]) (fds : Array FieldInfo := #[]) : ClassFile where
  minorVersion := 0
  majorVersion := 65
  constantPool := pool
  accessFlags := fl
  thisClass := this
  superClass := sup
  interfaces := ifs
  fields := fds
  methods := ms
  attributes := attrs
def plain (name : String) (sup : Option ClassId) : Class where
  name := name
  kind := .ordinary
  loader := none
  accessFlags := 33
  super := sup
  interfaces := #[]
  cf := none
  fields := #[]
  methods := #[]
  instanceTypes := #[]
  staticTypes := #[]
  resolved := #[]
  callSites := []
  init := .initialized
  statics := none
  mirror := none

def pool0 : Array CpInfo := pool [(5, u "<init>"), (0, u "()V"), (1, .class_ 10), (1, u "java/lang/Object")] 113

def k0c0 : Code := { maxStack := 0, maxLocals := 1, code := object_method_1_code, exceptionTable := #[], attributes := #[] }
def k0m0 : Method := { name := "<init>", desc := "()V", sig := { parameters := [], returnType := none }, accessFlags := 1, code := some k0c0 }
/-- java/lang/Object -/
def k0 : Class := { plain "java/lang/Object" none with
  accessFlags := 33
  interfaces := #[]
  cf := some (fileOf pool0 8 #[] #[{ accessFlags := 1, nameIndex := 5, descriptorIndex := 6, attributes := #[] }] 33 0 #[] #[])
  fields := #[]
  methods := #[k0m0]
  instanceTypes := #[]
  staticTypes := #[]
  resolved := Array.replicate 124 none
  statics := none }

def pool1 : Array CpInfo := pool [(2, .class_ 4), (1, u "java/lang/Object"), (0, u "<init>"), (0, u "()V"), (0, .long 7), (1, .class_ 10), (0, u "com/example/outpoint/outpoint/Totals"), (0, .methodref 9 12), (0, .nameAndType 5 13), (0, u "(JJJJJ)V"), (0, .methodref 9 15), (0, .nameAndType 16 17), (0, u "equals"), (0, u "(Ljava/lang/Object;)Z"), (0, .long 255), (1, .methodref 21 22), (0, .class_ 23), (0, .nameAndType 24 25), (0, u "java/lang/String"), (0, u "valueOf"), (0, u "(C)Ljava/lang/String;"), (0, .class_ 27), (0, u "com/example/outpoint/outpoint/TotalsEqualsPinLaw"), (2, u "law"), (0, u "(JJJJJJ)Z")] 3

def k1m0 : Method := { name := "<init>", desc := "()V", sig := { parameters := [], returnType := none }, accessFlags := 1, code := none }
def k1c1 : Code := { maxStack := 12, maxLocals := 26, code := code, exceptionTable := #[], attributes := #[] }
def k1m1 : Method := { name := "law", desc := "(JJJJJJ)Z", sig := { parameters := [.long, .long, .long, .long, .long, .long], returnType := some .boolean }, accessFlags := 9, code := some k1c1 }
/-- com/example/outpoint/outpoint/TotalsEqualsPinLaw -/
def k1 : Class := { plain "com/example/outpoint/outpoint/TotalsEqualsPinLaw" (some 0) with
  accessFlags := 49
  interfaces := #[]
  cf := some (fileOf pool1 26 #[] #[{ accessFlags := 1, nameIndex := 5, descriptorIndex := 6, attributes := #[] }, { accessFlags := 9, nameIndex := 30, descriptorIndex := 31, attributes := #[] }] 49 2 #[] #[])
  fields := #[]
  methods := #[k1m0, k1m1]
  instanceTypes := #[]
  staticTypes := #[]
  resolved := Array.replicate 35 none
  statics := none }

def pool2 : Array CpInfo := pool [(1, .methodref 2 3), (0, .class_ 4), (0, .nameAndType 5 6), (0, u "java/lang/Object"), (0, u "<init>"), (0, u "()V"), (0, .fieldref 8 9), (0, .class_ 10), (0, .nameAndType 11 12), (0, u "com/example/outpoint/outpoint/Totals"), (0, u "txCount"), (0, u "J"), (0, .fieldref 8 14), (0, .nameAndType 15 12), (0, u "fundedCount"), (0, .fieldref 8 17), (0, .nameAndType 18 12), (0, u "fundedSum"), (0, .fieldref 8 20), (0, .nameAndType 21 12), (0, u "spentCount"), (0, .fieldref 8 23), (0, .nameAndType 24 12), (0, u "spentSum"), (2, u "(JJJJJ)V"), (14, u "NONE"), (0, u "Lcom/example/outpoint/outpoint/Totals;"), (2, u "ONE_TRANSACTION"), (14, u "equals"), (0, u "(Ljava/lang/Object;)Z")] 22

def k2c0 : Code := { maxStack := 3, maxLocals := 11, code := prog_39_method_1_code, exceptionTable := #[], attributes := #[] }
def k2m0 : Method := { name := "<init>", desc := "(JJJJJ)V", sig := { parameters := [.long, .long, .long, .long, .long], returnType := none }, accessFlags := 0, code := some k2c0 }
def k2c1 : Code := { maxStack := 4, maxLocals := 3, code := prog_39_method_11_code, exceptionTable := #[], attributes := #[] }
def k2m1 : Method := { name := "equals", desc := "(Ljava/lang/Object;)Z", sig := { parameters := [(.object "java/lang/Object")], returnType := some .boolean }, accessFlags := 1, code := some k2c1 }
/-- com/example/outpoint/outpoint/Totals -/
def k2 : Class := { plain "com/example/outpoint/outpoint/Totals" (some 0) with
  accessFlags := 48
  interfaces := #[]
  cf := some (fileOf pool2 8 #[] #[{ accessFlags := 0, nameIndex := 5, descriptorIndex := 27, attributes := #[] }, { accessFlags := 1, nameIndex := 61, descriptorIndex := 62, attributes := #[] }] 48 2 #[] #[{ accessFlags := 24, nameIndex := 42, descriptorIndex := 43, attributes := #[] }, { accessFlags := 24, nameIndex := 46, descriptorIndex := 43, attributes := #[] }, { accessFlags := 18, nameIndex := 11, descriptorIndex := 12, attributes := #[] }, { accessFlags := 18, nameIndex := 15, descriptorIndex := 12, attributes := #[] }, { accessFlags := 18, nameIndex := 18, descriptorIndex := 12, attributes := #[] }, { accessFlags := 18, nameIndex := 21, descriptorIndex := 12, attributes := #[] }, { accessFlags := 18, nameIndex := 24, descriptorIndex := 12, attributes := #[] }])
  fields := #[{ name := "NONE", type := (.object "com/example/outpoint/outpoint/Totals"), accessFlags := 24, slot := 0, constantValue := 0 }, { name := "ONE_TRANSACTION", type := (.object "com/example/outpoint/outpoint/Totals"), accessFlags := 24, slot := 1, constantValue := 0 }, { name := "txCount", type := .long, accessFlags := 18, slot := 0, constantValue := 0 }, { name := "fundedCount", type := .long, accessFlags := 18, slot := 1, constantValue := 0 }, { name := "fundedSum", type := .long, accessFlags := 18, slot := 2, constantValue := 0 }, { name := "spentCount", type := .long, accessFlags := 18, slot := 3, constantValue := 0 }, { name := "spentSum", type := .long, accessFlags := 18, slot := 4, constantValue := 0 }]
  methods := #[k2m0, k2m1]
  instanceTypes := #[.long, .long, .long, .long, .long]
  staticTypes := #[(.object "com/example/outpoint/outpoint/Totals"), (.object "com/example/outpoint/outpoint/Totals")]
  resolved := Array.replicate 85 none
  statics := none }

def pool3 : Array CpInfo := pool [(1, .class_ 2), (0, u "java/io/Serializable"), (0, .class_ 4), (0, u "java/lang/Object")] 2

/-- java/io/Serializable -/
def k3 : Class := { plain "java/io/Serializable" (some 0) with
  accessFlags := 1537
  interfaces := #[]
  cf := some (fileOf pool3 1 #[] #[] 1537 3 #[] #[])
  fields := #[]
  methods := #[]
  instanceTypes := #[]
  staticTypes := #[]
  resolved := Array.replicate 7 none
  statics := none }

def pool4 : Array CpInfo := pool [(1, .class_ 2), (0, u "java/lang/Comparable"), (0, .class_ 4), (0, u "java/lang/Object")] 7

/-- java/lang/Comparable -/
def k4 : Class := { plain "java/lang/Comparable" (some 0) with
  accessFlags := 1537
  interfaces := #[]
  cf := some (fileOf pool4 1 #[] #[] 1537 3 #[] #[])
  fields := #[]
  methods := #[]
  instanceTypes := #[]
  staticTypes := #[]
  resolved := Array.replicate 12 none
  statics := none }

def pool5 : Array CpInfo := pool [(2, .class_ 4), (1, u "java/lang/CharSequence"), (42, .class_ 48), (0, u "java/lang/CharSequence$1CodePointIterator"), (10, .class_ 60), (0, u "java/lang/CharSequence$1CharIterator"), (5, .class_ 67), (0, u "java/lang/Object")] 63

/-- java/lang/CharSequence -/
def k5 : Class := { plain "java/lang/CharSequence" (some 0) with
  accessFlags := 1537
  interfaces := #[]
  cf := some (fileOf pool5 2 #[.nestMembers #[47, 59]] #[] 1537 66 #[] #[])
  fields := #[]
  methods := #[]
  instanceTypes := #[]
  staticTypes := #[]
  resolved := Array.replicate 131 none
  statics := none }

def pool6 : Array CpInfo := pool [(1, .class_ 2), (0, u "java/lang/constant/Constable"), (0, .class_ 4), (0, u "java/lang/Object")] 6

/-- java/lang/constant/Constable -/
def k6 : Class := { plain "java/lang/constant/Constable" (some 0) with
  accessFlags := 1537
  interfaces := #[]
  cf := some (fileOf pool6 1 #[] #[] 1537 3 #[] #[])
  fields := #[]
  methods := #[]
  instanceTypes := #[]
  staticTypes := #[]
  resolved := Array.replicate 11 none
  statics := none }

def pool7 : Array CpInfo := pool [(1, .class_ 2), (0, u "java/lang/constant/ConstantDesc"), (0, .class_ 4), (0, u "java/lang/Object")] 32

/-- java/lang/constant/ConstantDesc -/
def k7 : Class := { plain "java/lang/constant/ConstantDesc" (some 0) with
  accessFlags := 1537
  interfaces := #[]
  cf := some (fileOf pool7 1 #[] #[] 1537 3 #[] #[])
  fields := #[]
  methods := #[]
  instanceTypes := #[]
  staticTypes := #[]
  resolved := Array.replicate 37 none
  statics := none }

def pool8 : Array CpInfo := pool [(1, .methodref 2 3), (0, .class_ 4), (0, .nameAndType 5 6), (0, u "java/lang/Object"), (0, u "<init>"), (0, u "()V"), (2, .fieldref 10 11), (0, .class_ 12), (0, .nameAndType 13 14), (0, u "java/lang/String"), (0, u "value"), (0, u "[B"), (0, .fieldref 10 16), (0, .nameAndType 17 18), (0, u "coder"), (0, u "B"), (2, u "hash"), (0, u "I"), (2, u "hashIsZero"), (0, u "Z"), (11, .fieldref 10 39), (0, .nameAndType 40 26), (0, u "COMPACT_STRINGS"), (12, u "toBytes"), (53, .class_ 109), (1, u "java/lang/StringLatin1"), (99, .methodref 10 210), (0, .nameAndType 5 211), (0, u "([BB)V"), (157, u "(C)Z"), (205, .class_ 576), (0, u "java/lang/CharSequence"), (22, u "CASE_INSENSITIVE_ORDER"), (0, u "Ljava/util/Comparator;"), (181, u "valueOf"), (0, u "(C)Ljava/lang/String;"), (231, .methodref 107 1016), (0, .nameAndType 1017 369), (0, u "canEncode"), (0, .methodref 107 1019), (0, .nameAndType 53 1020), (0, u "(C)[B"), (80, u "serialPersistentFields"), (0, u "[Ljava/io/ObjectStreamField;"), (0, .class_ 1104), (0, u "java/lang/String$CaseInsensitiveComparator"), (1, .class_ 1107), (0, u "java/io/Serializable"), (0, .class_ 1109), (0, u "java/lang/Comparable"), (0, .class_ 1111), (0, u "java/lang/constant/Constable"), (0, .class_ 1113), (0, u "java/lang/constant/ConstantDesc"), (2, u "serialVersionUID"), (0, u "J"), (3, u "REPL"), (0, u "C"), (2, u "LATIN1"), (1, u "UTF16")] 323

def k8m0 : Method := { name := "<init>", desc := "()V", sig := { parameters := [], returnType := none }, accessFlags := 1, code := none }
def k8c1 : Code := { maxStack := 4, maxLocals := 1, code := jdk_42_method_139_code, exceptionTable := #[], attributes := #[] }
def k8m1 : Method := { name := "valueOf", desc := "(C)Ljava/lang/String;", sig := { parameters := [.char], returnType := some (.object "java/lang/String") }, accessFlags := 9, code := some k8c1 }
def k8c2 : Code := { maxStack := 2, maxLocals := 3, code := jdk_42_method_151_code, exceptionTable := #[], attributes := #[] }
def k8m2 : Method := { name := "<init>", desc := "([BB)V", sig := { parameters := [(.array .byte), .byte], returnType := none }, accessFlags := 0, code := some k8c2 }
/-- java/lang/String -/
def k8 : Class := { plain "java/lang/String" (some 0) with
  accessFlags := 49
  interfaces := #[3, 4, 5, 6, 7]
  cf := some (fileOf pool8 10 #[.nestMembers #[1103]] #[{ accessFlags := 1, nameIndex := 5, descriptorIndex := 6, attributes := #[] }, { accessFlags := 9, nameIndex := 782, descriptorIndex := 783, attributes := #[] }, { accessFlags := 0, nameIndex := 5, descriptorIndex := 211, attributes := #[] }] 49 2 #[1106, 1108, 575, 1110, 1112] #[{ accessFlags := 18, nameIndex := 13, descriptorIndex := 14, attributes := #[] }, { accessFlags := 18, nameIndex := 17, descriptorIndex := 18, attributes := #[] }, { accessFlags := 2, nameIndex := 21, descriptorIndex := 22, attributes := #[] }, { accessFlags := 2, nameIndex := 25, descriptorIndex := 26, attributes := #[] }, { accessFlags := 26, nameIndex := 1116, descriptorIndex := 1117, attributes := #[] }, { accessFlags := 24, nameIndex := 40, descriptorIndex := 26, attributes := #[] }, { accessFlags := 26, nameIndex := 1101, descriptorIndex := 1102, attributes := #[] }, { accessFlags := 26, nameIndex := 1121, descriptorIndex := 1122, attributes := #[] }, { accessFlags := 25, nameIndex := 599, descriptorIndex := 600, attributes := #[] }, { accessFlags := 24, nameIndex := 1125, descriptorIndex := 18, attributes := #[] }, { accessFlags := 24, nameIndex := 1127, descriptorIndex := 18, attributes := #[] }])
  fields := #[{ name := "value", type := (.array .byte), accessFlags := 18, slot := 0, constantValue := 0 }, { name := "coder", type := .byte, accessFlags := 18, slot := 1, constantValue := 0 }, { name := "hash", type := .int, accessFlags := 2, slot := 2, constantValue := 0 }, { name := "hashIsZero", type := .boolean, accessFlags := 2, slot := 3, constantValue := 0 }, { name := "serialVersionUID", type := .long, accessFlags := 26, slot := 0, constantValue := 0 }, { name := "COMPACT_STRINGS", type := .boolean, accessFlags := 24, slot := 1, constantValue := 0 }, { name := "serialPersistentFields", type := (.array (.object "java/io/ObjectStreamField")), accessFlags := 26, slot := 2, constantValue := 0 }, { name := "REPL", type := .char, accessFlags := 26, slot := 3, constantValue := 0 }, { name := "CASE_INSENSITIVE_ORDER", type := (.object "java/util/Comparator"), accessFlags := 25, slot := 4, constantValue := 0 }, { name := "LATIN1", type := .byte, accessFlags := 24, slot := 5, constantValue := 0 }, { name := "UTF16", type := .byte, accessFlags := 24, slot := 6, constantValue := 0 }]
  methods := #[k8m0, k8m1, k8m2]
  instanceTypes := #[(.array .byte), .byte, .int, .boolean]
  staticTypes := #[.long, .boolean, (.array (.object "java/io/ObjectStreamField")), .char, (.object "java/util/Comparator"), .byte, .byte]
  resolved := Array.replicate 1451 none
  statics := some 0 }

def pool9 : Array CpInfo := pool [(4, .class_ 6), (1, u "java/lang/Object"), (0, u "<init>"), (0, u "()V"), (5, .class_ 16), (1, u "java/lang/StringLatin1"), (73, u "canEncode"), (14, u "(C)Z"), (15, u "$assertionsDisabled"), (0, u "Z"), (98, .class_ 223), (1, u "java/lang/StringLatin1$LinesSpliterator"), (156, u "toBytes"), (1, u "(C)[B"), (7, .class_ 391), (0, u "java/lang/StringLatin1$CharsSpliterator")] 3

def k9m0 : Method := { name := "<init>", desc := "()V", sig := { parameters := [], returnType := none }, accessFlags := 0, code := none }
def k9c1 : Code := { maxStack := 2, maxLocals := 1, code := jdk_43_method_3_code, exceptionTable := #[], attributes := #[] }
def k9m1 : Method := { name := "canEncode", desc := "(C)Z", sig := { parameters := [.char], returnType := some .boolean }, accessFlags := 9, code := some k9c1 }
def k9c2 : Code := { maxStack := 4, maxLocals := 1, code := jdk_43_method_46_code, exceptionTable := #[], attributes := #[] }
def k9m2 : Method := { name := "toBytes", desc := "(C)[B", sig := { parameters := [.char], returnType := some (.array .byte) }, accessFlags := 9, code := some k9c2 }
/-- java/lang/StringLatin1 -/
def k9 : Class := { plain "java/lang/StringLatin1" (some 0) with
  accessFlags := 48
  interfaces := #[]
  cf := some (fileOf pool9 14 #[.nestMembers #[390, 221]] #[{ accessFlags := 0, nameIndex := 7, descriptorIndex := 8, attributes := #[] }, { accessFlags := 9, nameIndex := 90, descriptorIndex := 105, attributes := #[] }, { accessFlags := 9, nameIndex := 380, descriptorIndex := 382, attributes := #[] }] 48 4 #[] #[{ accessFlags := 4120, nameIndex := 121, descriptorIndex := 122, attributes := #[] }])
  fields := #[{ name := "$assertionsDisabled", type := .boolean, accessFlags := 4120, slot := 0, constantValue := 0 }]
  methods := #[k9m0, k9m1, k9m2]
  instanceTypes := #[]
  staticTypes := #[.boolean]
  resolved := Array.replicate 395 none
  statics := none }

def pool10 : Array CpInfo := pool [(2, .class_ 4), (1, u "java/lang/Object"), (0, u "<init>"), (0, u "()V"), (17, .class_ 26), (1, u "jdk/internal/util/Preconditions"), (28, .class_ 56), (0, u "jdk/internal/util/Preconditions$4"), (57, .class_ 115), (0, u "jdk/internal/util/Preconditions$1"), (7, u "SIOOBE_FORMATTER"), (0, u "Ljava/util/function/BiFunction;"), (0, .class_ 126), (0, u "jdk/internal/util/Preconditions$2"), (3, u "AIOOBE_FORMATTER"), (0, .class_ 132), (0, u "jdk/internal/util/Preconditions$3"), (3, u "IOOBE_FORMATTER")] 57

def k10m0 : Method := { name := "<init>", desc := "()V", sig := { parameters := [], returnType := none }, accessFlags := 1, code := none }
/-- jdk/internal/util/Preconditions -/
def k10 : Class := { plain "jdk/internal/util/Preconditions" (some 0) with
  accessFlags := 33
  interfaces := #[]
  cf := some (fileOf pool10 24 #[.nestMembers #[55, 131, 125, 114]] #[{ accessFlags := 1, nameIndex := 5, descriptorIndex := 6, attributes := #[] }] 33 2 #[] #[{ accessFlags := 25, nameIndex := 123, descriptorIndex := 124, attributes := #[] }, { accessFlags := 25, nameIndex := 130, descriptorIndex := 124, attributes := #[] }, { accessFlags := 25, nameIndex := 136, descriptorIndex := 124, attributes := #[] }])
  fields := #[{ name := "SIOOBE_FORMATTER", type := (.object "java/util/function/BiFunction"), accessFlags := 25, slot := 0, constantValue := 0 }, { name := "AIOOBE_FORMATTER", type := (.object "java/util/function/BiFunction"), accessFlags := 25, slot := 1, constantValue := 0 }, { name := "IOOBE_FORMATTER", type := (.object "java/util/function/BiFunction"), accessFlags := 25, slot := 2, constantValue := 0 }]
  methods := #[k10m0]
  instanceTypes := #[]
  staticTypes := #[(.object "java/util/function/BiFunction"), (.object "java/util/function/BiFunction"), (.object "java/util/function/BiFunction")]
  resolved := Array.replicate 194 none
  statics := some 1 }

def pool11 : Array CpInfo := pool [(9, u "<init>"), (6, .class_ 18), (1, u "java/lang/Object"), (0, u "()V"), (1, .class_ 23), (1, u "jdk/internal/util/ArraysSupport"), (0, u "LOG2_ARRAY_LONG_INDEX_SCALE"), (0, u "I"), (2, u "U"), (0, u "Ljdk/internal/misc/Unsafe;"), (8, u "BIG_ENDIAN"), (0, u "Z"), (8, u "LOG2_BYTE_BIT_SIZE"), (4, u "LOG2_ARRAY_INT_INDEX_SCALE"), (54, u "JLA"), (0, u "Ljdk/internal/access/JavaLangAccess;"), (11, u "LOG2_ARRAY_BOOLEAN_INDEX_SCALE"), (9, u "LOG2_ARRAY_BYTE_INDEX_SCALE"), (5, u "LOG2_ARRAY_CHAR_INDEX_SCALE"), (5, u "LOG2_ARRAY_SHORT_INDEX_SCALE"), (18, u "LOG2_ARRAY_FLOAT_INDEX_SCALE"), (24, u "LOG2_ARRAY_DOUBLE_INDEX_SCALE"), (89, u "T_BOOLEAN"), (2, u "T_CHAR"), (1, u "T_FLOAT"), (1, u "T_DOUBLE"), (1, u "T_BYTE"), (1, u "T_SHORT"), (1, u "T_INT"), (1, u "T_LONG"), (1, u "SOFT_MAX_ARRAY_LENGTH")] 83

def k11m0 : Method := { name := "<init>", desc := "()V", sig := { parameters := [], returnType := none }, accessFlags := 2, code := none }
/-- jdk/internal/util/ArraysSupport -/
def k11 : Class := { plain "jdk/internal/util/ArraysSupport" (some 0) with
  accessFlags := 33
  interfaces := #[]
  cf := some (fileOf pool11 21 #[] #[{ accessFlags := 2, nameIndex := 9, descriptorIndex := 19, attributes := #[] }] 33 16 #[] #[{ accessFlags := 24, nameIndex := 28, descriptorIndex := 29, attributes := #[] }, { accessFlags := 26, nameIndex := 38, descriptorIndex := 39, attributes := #[] }, { accessFlags := 25, nameIndex := 121, descriptorIndex := 25, attributes := #[] }, { accessFlags := 25, nameIndex := 131, descriptorIndex := 25, attributes := #[] }, { accessFlags := 25, nameIndex := 137, descriptorIndex := 25, attributes := #[] }, { accessFlags := 25, nameIndex := 143, descriptorIndex := 25, attributes := #[] }, { accessFlags := 25, nameIndex := 53, descriptorIndex := 25, attributes := #[] }, { accessFlags := 25, nameIndex := 24, descriptorIndex := 25, attributes := #[] }, { accessFlags := 25, nameIndex := 162, descriptorIndex := 25, attributes := #[] }, { accessFlags := 25, nameIndex := 187, descriptorIndex := 25, attributes := #[] }, { accessFlags := 26, nameIndex := 48, descriptorIndex := 25, attributes := #[] }, { accessFlags := 25, nameIndex := 277, descriptorIndex := 25, attributes := #[] }, { accessFlags := 25, nameIndex := 280, descriptorIndex := 25, attributes := #[] }, { accessFlags := 25, nameIndex := 282, descriptorIndex := 25, attributes := #[] }, { accessFlags := 25, nameIndex := 284, descriptorIndex := 25, attributes := #[] }, { accessFlags := 25, nameIndex := 286, descriptorIndex := 25, attributes := #[] }, { accessFlags := 25, nameIndex := 288, descriptorIndex := 25, attributes := #[] }, { accessFlags := 25, nameIndex := 290, descriptorIndex := 25, attributes := #[] }, { accessFlags := 25, nameIndex := 292, descriptorIndex := 25, attributes := #[] }, { accessFlags := 26, nameIndex := 108, descriptorIndex := 109, attributes := #[] }, { accessFlags := 25, nameIndex := 294, descriptorIndex := 25, attributes := #[] }])
  fields := #[{ name := "U", type := (.object "jdk/internal/misc/Unsafe"), accessFlags := 24, slot := 0, constantValue := 0 }, { name := "BIG_ENDIAN", type := .boolean, accessFlags := 26, slot := 1, constantValue := 0 }, { name := "LOG2_ARRAY_BOOLEAN_INDEX_SCALE", type := .int, accessFlags := 25, slot := 2, constantValue := 0 }, { name := "LOG2_ARRAY_BYTE_INDEX_SCALE", type := .int, accessFlags := 25, slot := 3, constantValue := 0 }, { name := "LOG2_ARRAY_CHAR_INDEX_SCALE", type := .int, accessFlags := 25, slot := 4, constantValue := 0 }, { name := "LOG2_ARRAY_SHORT_INDEX_SCALE", type := .int, accessFlags := 25, slot := 5, constantValue := 0 }, { name := "LOG2_ARRAY_INT_INDEX_SCALE", type := .int, accessFlags := 25, slot := 6, constantValue := 0 }, { name := "LOG2_ARRAY_LONG_INDEX_SCALE", type := .int, accessFlags := 25, slot := 7, constantValue := 0 }, { name := "LOG2_ARRAY_FLOAT_INDEX_SCALE", type := .int, accessFlags := 25, slot := 8, constantValue := 0 }, { name := "LOG2_ARRAY_DOUBLE_INDEX_SCALE", type := .int, accessFlags := 25, slot := 9, constantValue := 0 }, { name := "LOG2_BYTE_BIT_SIZE", type := .int, accessFlags := 26, slot := 10, constantValue := 0 }, { name := "T_BOOLEAN", type := .int, accessFlags := 25, slot := 11, constantValue := 0 }, { name := "T_CHAR", type := .int, accessFlags := 25, slot := 12, constantValue := 0 }, { name := "T_FLOAT", type := .int, accessFlags := 25, slot := 13, constantValue := 0 }, { name := "T_DOUBLE", type := .int, accessFlags := 25, slot := 14, constantValue := 0 }, { name := "T_BYTE", type := .int, accessFlags := 25, slot := 15, constantValue := 0 }, { name := "T_SHORT", type := .int, accessFlags := 25, slot := 16, constantValue := 0 }, { name := "T_INT", type := .int, accessFlags := 25, slot := 17, constantValue := 0 }, { name := "T_LONG", type := .int, accessFlags := 25, slot := 18, constantValue := 0 }, { name := "JLA", type := (.object "jdk/internal/access/JavaLangAccess"), accessFlags := 26, slot := 19, constantValue := 0 }, { name := "SOFT_MAX_ARRAY_LENGTH", type := .int, accessFlags := 25, slot := 20, constantValue := 0 }]
  methods := #[k11m0]
  instanceTypes := #[]
  staticTypes := #[(.object "jdk/internal/misc/Unsafe"), .boolean, .int, .int, .int, .int, .int, .int, .int, .int, .int, .int, .int, .int, .int, .int, .int, .int, .int, (.object "jdk/internal/access/JavaLangAccess"), .int]
  resolved := Array.replicate 378 none
  statics := none }

def pool12 : Array CpInfo := pool [(1, u "java/lang/Cloneable"), (0, .class_ 1), (0, u "java/lang/Object"), (0, .class_ 3)] 3

/-- java/lang/Cloneable -/
def k12 : Class := { plain "java/lang/Cloneable" (some 0) with
  accessFlags := 1537
  interfaces := #[]
  cf := some (fileOf pool12 2 #[] #[] 1537 4 #[] #[])
  fields := #[]
  methods := #[]
  instanceTypes := #[]
  staticTypes := #[]
  resolved := Array.replicate 8 none
  statics := none }

/-- the primitive byte -/
def k13 : Class := { plain "byte" none with kind := .primitive 'B', accessFlags := 0x411 }
/-- [B -/
def k14 : Class := { plain "[B" (some 0) with kind := .array 13 .byte, interfaces := #[12, 3], accessFlags := 1041 }

/-- the primitive int -/
def k15 : Class := { plain "int" none with kind := .primitive 'I', accessFlags := 0x411 }
/-- [I -/
def k16 : Class := { plain "[I" (some 0) with kind := .array 15 .int, interfaces := #[12, 3], accessFlags := 1041 }

def heap : Heap := #[{ cls := 8, slots := #[.long 0, .int 1, .null, .int 0, .null, .int 0, .int 0], vm := .statics 8 },
  { cls := 10, slots := #[.null, .null, .null], vm := .statics 10 }]
def classes : Array Class := #[k0, k1, k2, k3, k4, k5, k6, k7, k8, k9, k10, k11, k12, k13, k14, k15, k16]
def interned : List (Array UInt16 × Addr) := []
def slotsUsed : Nat := 10
def theMethod : MethodId := ⟨1, 1⟩
def args0 : Array Value := #[.long 5, .long 5, .long 5, .long 5, .long 5, .long 5]
def aboutOver (below : List Frame) : State where
  vm := { classes := classes, interned := interned.toArray }
  heap := heap
  slotsUsed := slotsUsed
  threads := #[{ frames := .invoking theMethod args0 :: below }]
def below0 : List Frame := [.native { method := ⟨0, 0⟩, args := #[] }]
def about1 : State := aboutOver below0
def p0 : Program := .bare "" "" ""
def e0 : Env := launch0.env 0 0 0
theorem w_frames : about1.frames = Frame.invoking theMethod args0 :: below0 := rfl
set_option maxRecDepth 65536 in
theorem w_args : argsFit about1.vm theMethod args0 = true := by decide +kernel
set_option maxRecDepth 65536 in
theorem w_heap : heapFits about1 = true := by decide +kernel
set_option maxRecDepth 65536 in
theorem w_runnable : about1.curStatus? = some .runnable := by decide +kernel
set_option maxRecDepth 65536 in
theorem w_alone : about1.alone = true := by decide +kernel
set_option maxRecDepth 65536 in
theorem w_named : about1.methodNamed? x = some theMethod := by decide +kernel
set_option maxRecDepth 65536 in
theorem w_hears : about1.hears theMethod below0 = true := by decide +kernel
set_option maxRecDepth 65536 in
theorem w_ripe : about1.ripe theMethod args0 below0 = true := by decide +kernel
theorem w_running : about1.status = .running := rfl
set_option maxRecDepth 65536 in
theorem w_room : about1.hasRoom e0.platform room_1 = true :=
  launch0.hasRoom_least _ room_1 (by decide +kernel) (by decide +kernel) (by decide +kernel) (by decide +kernel) (by decide +kernel) (by decide +kernel)
theorem allAtoms_all (ts : List Jvm.Cond) (a : Array Jvm.Value) (st : Jvm.State) : (allAtoms ts).before a st = ts.all (fun c => c.before a st) := by
  induction ts with
  | nil => rfl
  | cons c t ih =>
    show (Jvm.Cond.and c (allAtoms t)).before a st = _
    rw [Jvm.Cond.before_and, ih, List.all_cons]
def words1 : List Jvm.Cond := Jvm.Cond.code x code maxLocals ret :: tables_1
/-- a 'code' word, met by the world's own term for the bytes: nothing is compared byte by byte -/
theorem code_word {y : MethodName} {bytes : ByteArray} {mx : Nat} {rt : Option FieldType} {a : Array Value} {s : State} {m : MethodId} {meth : Method} {c : Code} (h1 : s.methodNamed? y = some m) (h2 : s.vm.method? m = some meth) (h3 : meth.code = some c) (h4 : c.code = bytes)
    (h5 : (c.maxLocals == mx && c.exceptionTable.isEmpty && decide (c.maxStack ≤ mostOperands) && decide (meth.sig.returnType = rt) && !meth.locks && decide (parseMethodDescriptor y.desc = some meth.sig)) = true) : (Jvm.Cond.code y bytes mx rt).before a s = true := by
  simp only [Bool.and_eq_true, beq_iff_eq, Bool.not_eq_true', decide_eq_true_eq] at h5
  obtain ⟨⟨⟨⟨⟨g1, g2⟩, g3⟩, g4⟩, g5⟩, g6⟩ := h5
  simp [Cond.before, Cond.holds, Cond.value, h1, h2, h3, h4, g1, g2, g3, g4, g5, g6]
def isCode : Jvm.Cond → Bool
  | .code _ _ _ _ => true
  | _ => false
theorem all_split {L : List Jvm.Cond} {P : Jvm.Cond → Bool} (h1 : L.all (fun c => isCode c || P c) = true) (h2 : ∀ c ∈ L.filter isCode, P c = true) : L.all P = true := by
  refine List.all_eq_true.mpr fun c hc => ?_
  have h := List.all_eq_true.mp h1 c hc
  rcases Bool.eq_false_or_eq_true (isCode c) with hi | hi
  · exact h2 c (List.mem_filter.mpr ⟨hc, hi⟩)
  · simpa [hi] using h
set_option maxRecDepth 65536 in
theorem w_c0 : (Jvm.Cond.code x code maxLocals ret).before args0 about1 = true := code_word (m := ⟨1, 1⟩) (meth := k1m1) (c := k1c1) (by decide +kernel) rfl rfl rfl (by decide +kernel)
set_option maxRecDepth 65536 in
theorem w_c1 : (Jvm.Cond.code ({ cls := "com/example/outpoint/outpoint/Totals", name := "<init>", desc := "(JJJJJ)V" } : Jvm.MethodName) prog_39_method_1_code (11 : Nat) (Option.none : Option Jvm.ClassFile.FieldType)).before args0 about1 = true := code_word (m := ⟨2, 0⟩) (meth := k2m0) (c := k2c0) (by decide +kernel) rfl rfl rfl (by decide +kernel)
set_option maxRecDepth 65536 in
theorem w_c2 : (Jvm.Cond.code ({ cls := "java/lang/Object", name := "<init>", desc := "()V" } : Jvm.MethodName) object_method_1_code (1 : Nat) (Option.none : Option Jvm.ClassFile.FieldType)).before args0 about1 = true := code_word (m := ⟨0, 0⟩) (meth := k0m0) (c := k0c0) (by decide +kernel) rfl rfl rfl (by decide +kernel)
set_option maxRecDepth 65536 in
theorem w_c3 : (Jvm.Cond.code ({ cls := "com/example/outpoint/outpoint/Totals", name := "equals", desc := "(Ljava/lang/Object;)Z" } : Jvm.MethodName) prog_39_method_11_code (3 : Nat) (Option.some Jvm.ClassFile.FieldType.boolean)).before args0 about1 = true := code_word (m := ⟨2, 1⟩) (meth := k2m1) (c := k2c1) (by decide +kernel) rfl rfl rfl (by decide +kernel)
set_option maxRecDepth 65536 in
theorem w_c4 : (Jvm.Cond.code ({ cls := "java/lang/String", name := "valueOf", desc := "(C)Ljava/lang/String;" } : Jvm.MethodName) jdk_42_method_139_code (1 : Nat) (Option.some (Jvm.ClassFile.FieldType.object "java/lang/String"))).before args0 about1 = true := code_word (m := ⟨8, 1⟩) (meth := k8m1) (c := k8c1) (by decide +kernel) rfl rfl rfl (by decide +kernel)
set_option maxRecDepth 65536 in
theorem w_c5 : (Jvm.Cond.code ({ cls := "java/lang/StringLatin1", name := "canEncode", desc := "(C)Z" } : Jvm.MethodName) jdk_43_method_3_code (1 : Nat) (Option.some Jvm.ClassFile.FieldType.boolean)).before args0 about1 = true := code_word (m := ⟨9, 1⟩) (meth := k9m1) (c := k9c1) (by decide +kernel) rfl rfl rfl (by decide +kernel)
set_option maxRecDepth 65536 in
theorem w_c6 : (Jvm.Cond.code ({ cls := "java/lang/StringLatin1", name := "toBytes", desc := "(C)[B" } : Jvm.MethodName) jdk_43_method_46_code (1 : Nat) (Option.some (Jvm.ClassFile.FieldType.array Jvm.ClassFile.FieldType.byte))).before args0 about1 = true := code_word (m := ⟨9, 2⟩) (meth := k9m2) (c := k9c2) (by decide +kernel) rfl rfl rfl (by decide +kernel)
set_option maxRecDepth 65536 in
theorem w_c7 : (Jvm.Cond.code ({ cls := "java/lang/String", name := "<init>", desc := "([BB)V" } : Jvm.MethodName) jdk_42_method_151_code (3 : Nat) (Option.none : Option Jvm.ClassFile.FieldType)).before args0 about1 = true := code_word (m := ⟨8, 2⟩) (meth := k8m2) (c := k8c2) (by decide +kernel) rfl rfl rfl (by decide +kernel)
def codes1 : List Jvm.Cond := [Jvm.Cond.code x code maxLocals ret, Jvm.Cond.code ({ cls := "com/example/outpoint/outpoint/Totals", name := "<init>", desc := "(JJJJJ)V" } : Jvm.MethodName) prog_39_method_1_code (11 : Nat) (Option.none : Option Jvm.ClassFile.FieldType), Jvm.Cond.code ({ cls := "java/lang/Object", name := "<init>", desc := "()V" } : Jvm.MethodName) object_method_1_code (1 : Nat) (Option.none : Option Jvm.ClassFile.FieldType), Jvm.Cond.code ({ cls := "com/example/outpoint/outpoint/Totals", name := "equals", desc := "(Ljava/lang/Object;)Z" } : Jvm.MethodName) prog_39_method_11_code (3 : Nat) (Option.some Jvm.ClassFile.FieldType.boolean), Jvm.Cond.code ({ cls := "java/lang/String", name := "valueOf", desc := "(C)Ljava/lang/String;" } : Jvm.MethodName) jdk_42_method_139_code (1 : Nat) (Option.some (Jvm.ClassFile.FieldType.object "java/lang/String")), Jvm.Cond.code ({ cls := "java/lang/StringLatin1", name := "canEncode", desc := "(C)Z" } : Jvm.MethodName) jdk_43_method_3_code (1 : Nat) (Option.some Jvm.ClassFile.FieldType.boolean), Jvm.Cond.code ({ cls := "java/lang/StringLatin1", name := "toBytes", desc := "(C)[B" } : Jvm.MethodName) jdk_43_method_46_code (1 : Nat) (Option.some (Jvm.ClassFile.FieldType.array Jvm.ClassFile.FieldType.byte)), Jvm.Cond.code ({ cls := "java/lang/String", name := "<init>", desc := "([BB)V" } : Jvm.MethodName) jdk_42_method_151_code (3 : Nat) (Option.none : Option Jvm.ClassFile.FieldType)]
set_option maxRecDepth 65536 in
theorem codes_eq : words1.filter isCode = codes1 := rfl
theorem w_codes : ∀ c ∈ words1.filter isCode, c.before args0 about1 = true := by
  rw [codes_eq]
  intro c hc
  simp only [codes1, List.mem_cons, List.not_mem_nil, or_false] at hc
  rcases hc with rfl | rfl | rfl | rfl | rfl | rfl | rfl | rfl
  · exact w_c0
  · exact w_c1
  · exact w_c2
  · exact w_c3
  · exact w_c4
  · exact w_c5
  · exact w_c6
  · exact w_c7
set_option maxRecDepth 65536 in
theorem w_t1 : (words1.take 24).all (fun c => isCode c || c.before args0 about1) = true := by decide +kernel
set_option maxRecDepth 65536 in
theorem w_t2 : ((words1.drop 24).take 24).all (fun c => isCode c || c.before args0 about1) = true := by decide +kernel
set_option maxRecDepth 65536 in
theorem w_t3 : ((words1.drop 24).drop 24).all (fun c => isCode c || c.before args0 about1) = true := by decide +kernel
theorem w_tables : (allAtoms (Jvm.Cond.code x code maxLocals ret :: tables_1)).before args0 about1 = true := by
  rw [allAtoms_all]
  show words1.all (fun c => c.before args0 about1) = true
  refine all_split ?_ w_codes
  rw [← List.take_append_drop 24 words1, List.all_append, w_t1, ← List.take_append_drop 24 (words1.drop 24), List.all_append, w_t2, w_t3]
  rfl
set_option maxRecDepth 65536 in
theorem w_rest : rest_1_c.before args0 about1 = true := by decide +kernel
set_option maxRecDepth 65536 in
theorem w_case : (Jvm.Cond.and given_1 narrow_1).before args0 about1 = true := by decide +kernel
theorem w_applies : (headSpec (Jvm.Cond.code x code maxLocals ret :: tables_1) room_1).applies x e0.platform about1 = true :=
  (Spec.applies_iff w_frames).mpr ⟨w_running, w_runnable, w_alone, w_named, w_hears, w_ripe, w_room, w_tables⟩
theorem atStart : AtStart classFile x code maxLocals ret World_1 tables_1 room_1 Calls_1 rest_1 Pre_1 launch0 p0 e0 about1 theMethod args0 below0 :=
  ⟨lists_1, trivial, launch0.admits_env _ _ _, launch0.least_env, fairChoices_fair.cas, fairChoices_fair.clock, w_frames, w_args, w_heap, w_applies, trivial, w_rest, w_case⟩
end start1
theorem witness_1 : WitnessClaimed_1 := ⟨start1.p0, start1.e0, start1.about1, start1.theMethod, start1.args0, start1.below0, start1.atStart⟩
end Jvm.Pilot.@@N@@
