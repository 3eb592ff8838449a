import JvmDerived
import JvmDerived.Pilot.@@N@@Statement
import JvmDerived.Pilot.@@N@@Code
set_option linter.unusedVariables false
set_option linter.unusedSimpArgs false
@@BLOCK:NumsL.lean.txt@@
namespace Jvm.OwnW
open Jvm Jvm.ClassFile Sem Op Lib Jvm.Free Jvm.Stand Jvm.LawKit Jvm.RoadKit
/-! what is left to be shown, and where the run stands -/
def Qc (n0 : Nat) (Q : Option Value → Heap → Prop) (v : Option Value) (h : Heap) (L : List Loc) : Prop := Fr n0 L ∧ n0 ≤ h.size ∧ Q v h
def W (p : Program) (e : Env) (below : List Frame) (s : State) (R : Room) (n0 : Nat) (Q : Option Value → Heap → Prop) (S0 : State) : Prop :=
  ∃ s₂ o, Steps p.tables e below S0 s₂ ∧ s₂.status = .running ∧ Ended s₂ below o ∧ ∃ v L, o = .returned v ∧ Qc n0 Q v s₂.heap L ∧ FrameEnd s o s₂ L R.cells R.slots
def Sn (Z : State) (n0 : Nat) (bs : ByteArray) (mx : Nat) (own nm : String) (ret : Option FieldType) (p : Program) (l : Launch) (e : Env) (R : Room) (s : State) (m : MethodId) (args : Array Value) (below : List Frame) (meth : Method) (c : Code) (T : State) (h : Heap) (cells slots : Nat) : Prop :=
  ∃ locs, Stand p l e R s m args below meth c T locs cells slots ∧ T.heap = h ∧ Fr n0 locs ∧ n0 ≤ h.size ∧ cells ≤ R.cells ∧ slots ≤ R.slots ∧ p.tables.exec = Jvm.exec ∧ Z.Warmed39 s.vm ∧ c.code = bs ∧ c.maxLocals = mx ∧ s.vm.findClass own = some m.cls ∧ meth.name = nm ∧ meth.sig.returnType = ret ∧ meth.locks = false
def Ct (l : Launch) (Z : State) (y : MethodName) (bs : ByteArray) (mx : Nat) (ret : Option FieldType) (ws : List Jvm.Cond) (R : Room) (as' : Array Value) (h : Heap) (n0 : Nat) (Q : Option Value → Heap → Prop) : Prop :=
  MetFree l y (head1 (Cond.code y bs mx ret :: ws) R) (fun a U => a = as' ∧ Z.Warmed39 U.vm ∧ U.heap = h) (fun _ _ _ _ _ => True) (fun _ U o U' => ∃ v L, o = .returned v ∧ Qc n0 Q v U'.heap L ∧ FrameEnd U o U' L R.cells R.slots)
theorem Ct.of {l : Launch} {Z : State} {y : MethodName} {bs : ByteArray} {mx : Nat} {ret : Option FieldType} {ws : List Jvm.Cond} {R : Room} {as' : Array Value} {h : Heap} {n0 : Nat} {Q : Option Value → Heap → Prop} {Ls : Array Slot}
    (hp : plainFor y = true) (hn : n0 ≤ h.size) (he : ∀ m, entryFrame m as' mx = mkF m 0 Ls [])
    (body : ∀ p e s m below meth c T, Sn Z n0 bs mx y.cls y.name ret p l e R s m as' below meth c T h 0 0 → W p e below s R n0 Q (T.setTop (mkF m 0 Ls []))) : Ct l Z y bs mx ret ws R as' h n0 Q := by
  refine MetFree.of_bodySF hp hisR ?_
  intro p e s m args below meth c s₁ Bd hml0 hP hK
  obtain ⟨rfl, hZ, hh⟩ := hP
  have X0 : Stand p l e R s m args below meth c s₁ [] 0 0 := Stand.of_body Bd
  have e0 : s₁.heap = h := by rw [← hh, Bd.state]; rfl
  obtain ⟨s2, o, st, r⟩ := body p e s m below meth c s₁ ⟨[], X0, e0, Fr.nil n0, hn, Nat.zero_le _, Nat.zero_le _, Bd.exec, hZ, Bd.bytes, hml0, findClass_of_methodNamed Bd.named, (name_of_methodNamed Bd.named Bd.method).1, Bd.returns, Bd.notSynchronized⟩
  exact ⟨s2, o, castTop (he m) st, r⟩
/-! the shifts, by names -/
def lus (x : Int64) (y : Int32) : Int64 := (x.toUInt64 >>> (y &&& 0x3f).toInt64.toUInt64).toInt64
def lsl (x : Int64) (y : Int32) : Int64 := x <<< (y &&& 0x3f).toInt64
def lsr (x : Int64) (y : Int32) : Int64 := x >>> (y &&& 0x3f).toInt64
def ius (x : Int32) (y : Int32) : Int32 := (x.toUInt32 >>> (y &&& 31).toUInt32).toInt32
def isl (x : Int32) (y : Int32) : Int32 := x <<< (y &&& 31)
def isr (x : Int32) (y : Int32) : Int32 := x >>> (y &&& 31)
theorem sh_u : ∀ k : Nat, k < 64 → ((Int32.ofNat k &&& 0x3f).toInt64.toUInt64.toBitVec % 64).toNat = k := by decide +kernel
theorem sh_s : ∀ k : Nat, k < 64 → ((Int32.ofNat k &&& 0x3f).toInt64.toBitVec.smod 64).toNat = k := by decide +kernel
theorem sh_u32 : ∀ k : Nat, k < 32 → ((Int32.ofNat k &&& 31).toUInt32.toBitVec % 32).toNat = k := by decide +kernel
theorem sh_s32 : ∀ k : Nat, k < 32 → ((Int32.ofNat k &&& 31).toBitVec.smod 32).toNat = k := by decide +kernel
theorem lusB (x : Int64) {k : Nat} (hk : k < 64) : (lus x (Int32.ofNat k)).toBitVec = x.toBitVec >>> k := by
  show (x.toUInt64 >>> (Int32.ofNat k &&& 0x3f).toInt64.toUInt64).toBitVec = _
  rw [UInt64.toBitVec_shiftRight, BitVec.ushiftRight_eq', sh_u k hk]; rfl
theorem lslB (x : Int64) {k : Nat} (hk : k < 64) : (lsl x (Int32.ofNat k)).toBitVec = x.toBitVec <<< k := by
  unfold lsl
  rw [Int64.toBitVec_shiftLeft, BitVec.shiftLeft_eq', sh_s k hk]
theorem lsrB (x : Int64) {k : Nat} (hk : k < 64) : (lsr x (Int32.ofNat k)).toBitVec = x.toBitVec.sshiftRight k := by
  unfold lsr
  rw [Int64.toBitVec_shiftRight, BitVec.sshiftRight_eq', sh_s k hk]
theorem iusB (x : Int32) {k : Nat} (hk : k < 32) : (ius x (Int32.ofNat k)).toBitVec = x.toBitVec >>> k := by
  show (x.toUInt32 >>> (Int32.ofNat k &&& 31).toUInt32).toBitVec = _
  rw [UInt32.toBitVec_shiftRight, BitVec.ushiftRight_eq', sh_u32 k hk]; rfl
theorem isrB (x : Int32) {k : Nat} (hk : k < 32) : (isr x (Int32.ofNat k)).toBitVec = x.toBitVec.sshiftRight k := by
  unfold isr
  rw [Int32.toBitVec_shiftRight, BitVec.sshiftRight_eq', sh_s32 k hk]
/-- the long read without its sign -/
def un (x : Int64) : Nat := x.toBitVec.toNat
theorem un_inj {x y : Int64} (h : un x = un y) : x = y := Int64.toBitVec_inj.mp (BitVec.eq_of_toNat_eq h)
theorem un_lt (x : Int64) : un x < 2 ^ 64 := x.toBitVec.isLt
theorem un_of_nonneg {x : Int64} (h : 0 ≤ x.toInt) : (un x : Int) = x.toInt ∧ un x < 2 ^ 63 := by
  have e : x.toInt = if 2 * un x < 2 ^ 64 then (un x : Int) else (un x : Int) - ((2 ^ 64 : Nat) : Int) := BitVec.toInt_eq_toNat_cond _
  have l := un_lt x
  by_cases q : 2 * un x < 2 ^ 64
  · rw [if_pos q] at e; omega
  · rw [if_neg q] at e; omega
theorem un_lus (x : Int64) {k : Nat} (hk : k < 64) : un (lus x (Int32.ofNat k)) = un x / 2 ^ k := by
  unfold un; rw [lusB x hk, BitVec.toNat_ushiftRight, Nat.shiftRight_eq_div_pow]
theorem un_lsl (x : Int64) {k : Nat} (hk : k < 64) : un (lsl x (Int32.ofNat k)) = un x * 2 ^ k % 2 ^ 64 := by
  unfold un; rw [lslB x hk, BitVec.toNat_shiftLeft, Nat.shiftLeft_eq]
theorem un_or (x y : Int64) : un (x ||| y) = un x ||| un y := by
  unfold un; rw [Int64.toBitVec_or, BitVec.toNat_or]
theorem un_and (x y : Int64) : un (x &&& y) = un x &&& un y := by
  unfold un; rw [Int64.toBitVec_and, BitVec.toNat_and]
theorem un_mask (x m : Int64) {k : Nat} (hm : un m = 2 ^ k - 1) : un (x &&& m) = un x % 2 ^ k := by
  rw [un_and, hm, Nat.and_two_pow_sub_one_eq_mod]
theorem toInt_of_un {x : Int64} (h : un x < 2 ^ 63) : x.toInt = un x := by
  have e : x.toInt = x.toBitVec.toInt := rfl
  rw [e, BitVec.toInt_eq_toNat_cond]
  unfold un at *
  rw [if_pos (by omega)]
theorem lus_nonneg {x : Int64} (h : 0 ≤ x.toInt) {k : Nat} (hk : k < 64) : (lus x (Int32.ofNat k)).toInt = x.toInt / 2 ^ k := by
  have h1 := un_of_nonneg h
  have h2 := un_lus x hk
  have h3 : un x / 2 ^ k ≤ un x := Nat.div_le_self _ _
  rw [toInt_of_un (by omega), h2, ← h1.1]; simp
theorem byteN : ∀ b : BitVec 8, ((Int8.ofBitVec b).toInt32.toInt8.toInt32 &&& 255).toInt64.toBitVec.toNat = b.toNat := by decide +kernel
theorem byteU (v : Int64) : un ((v.toInt32.toInt8.toInt32.toInt8.toInt32 &&& 255).toInt64) = un v % 256 := by
  have e : (v.toInt32.toInt8).toBitVec.toNat = un v % 256 := by
    show ((v.toBitVec.signExtend 32).signExtend 8).toNat = _
    rw [BitVec.signExtend_eq_setWidth_of_le _ (by decide), BitVec.signExtend_eq_setWidth_of_le _ (by decide), BitVec.toNat_setWidth, BitVec.toNat_setWidth]
    unfold un; omega
  have h := byteN v.toInt32.toInt8.toBitVec
  rw [e] at h
  exact h
theorem catU {a c : Int64} {k : Nat} (hk : k < 64) (ha : un a * 2 ^ k < 2 ^ 64) (hc : un c < 2 ^ k) : un (lsl a (Int32.ofNat k) ||| c) = un a * 2 ^ k + un c := by
  rw [un_or, un_lsl a hk, Nat.mod_eq_of_lt ha, ← Nat.shiftLeft_eq, Nat.shiftLeft_add_eq_or_of_lt hc]
/-! an array: its kind, its length, what each place holds -/
def AF (Z : State) (h : Heap) (a : Addr) (ty : FieldType) (n : Nat) (f : Nat → Value) : Prop := ∃ c : Cell, Arr Z h a c ty ∧ c.slots.size = n ∧ n < 2 ^ 31 ∧ ∀ j, j < n → c.slots[j]? = some (f j)
def up (f : Nat → Value) (i : Nat) (v : Value) : Nat → Value := fun j => if j = i then v else f j
section
variable {Z : State} {h h' h0 : Heap} {a b : Addr} {ty : FieldType} {n i sl : Nat} {f g : Nat → Value} {v : Value} {ws : List Addr}
theorem AF.lt (F : AF Z h a ty n f) : a < h.size := by obtain ⟨c, A, -⟩ := F; exact A.lt
theorem AF.len (F : AF Z h a ty n f) : n < 2 ^ 31 := by obtain ⟨c, -, -, q, -⟩ := F; exact q
theorem AF.ext (F : AF Z h a ty n f) (E : Ext h h') : AF Z h' a ty n f := by obtain ⟨c, A, r⟩ := F; exact ⟨c, A.ext E, r⟩
theorem AF.other (F : AF Z h b ty n f) (W : Wr h h' a sl v) (q : b ≠ a) : AF Z h' b ty n f := by obtain ⟨c, A, r⟩ := F; exact ⟨c, A.other W q, r⟩
theorem AF.keep (F : AF Z h a ty n f) (K : Keep h h' ws) (q : a ∉ ws) : AF Z h' a ty n f := by obtain ⟨c, A, r⟩ := F; exact ⟨c, ⟨K.2.1 a c A.1 q, A.2⟩, r⟩
theorem AF.congr (F : AF Z h a ty n f) (q : ∀ j, j < n → f j = g j) : AF Z h a ty n g := by obtain ⟨c, A, r1, r2, r3⟩ := F; exact ⟨c, A, r1, r2, fun j hj => by rw [← q j hj]; exact r3 j hj⟩
theorem AF.set (F : AF Z h a ty n f) (W : Wr h h' a i v) : AF Z h' a ty n (up f i v) := by
  obtain ⟨c, A, r1, r2, r3⟩ := F
  refine ⟨_, A.same W, by rw [sz_set]; exact r1, r2, fun j hj => ?_⟩
  by_cases u : j = i
  · subst u; simp [Cell.setSlot, up, r1, hj]
  · simp only [Cell.setSlot, up, u, if_false]; rw [Array.getElem?_setIfInBounds_ne (Ne.symm u)]; exact r3 j hj
theorem AF.new {k : ClassId} {z : Int32} (A : Arr Z h a (newA k ty z) ty) (q : z.toInt = n) : AF Z h a ty n (fun _ => defaultValue ty) := by
  have := Int32.toInt_lt z
  refine ⟨_, A, by rw [sz_new]; simp only [Int32.toNatClampNeg]; omega, by omega, fun j hj => ?_⟩
  have : j < z.toNatClampNeg := by simp only [Int32.toNatClampNeg]; omega
  simp [newA, this]
theorem up_eq {j : Nat} (q : j = i) : up f i v j = v := if_pos q
theorem up_ne {j : Nat} (q : j ≠ i) : up f i v j = f j := if_neg q
theorem ne_size (q : b = h.size) (r : a < h.size) : a ≠ b := by subst q; exact Nat.ne_of_lt r
theorem Keep.app (K : Keep h0 h ws) (K' : Keep h h' ws) : Keep h0 h' ws := K.trans K' fun x hx => Or.inl hx
end
section
variable {p : Program} {l : Launch} {e : Env} {R : Room} {s : State} {m : MethodId} {args : Array Value} {below : List Frame} {meth : Method} {c : Code} {Z : State} {a0 : Array Value} {n0 : Nat} {bs : ByteArray} {mx : Nat} {own nm : String} {ret : Option FieldType} {T : State} {h : Heap} {cells slots : Nat} {Q : Option Value → Heap → Prop} {pc pc' pc1 pc2 k : Nat} {Ls L' : Array Slot} {st : List Value} {o : Int}
theorem W.of {S0 S1 : State} (q : ∀ t, Steps p.tables e below S1 t → Steps p.tables e below S0 t) (w : W p e below s R n0 Q S1) : W p e below s R n0 Q S0 := by
  obtain ⟨s2, o, st, r⟩ := w; exact ⟨s2, o, q _ st, r⟩
theorem W.fwd {S0 S1 : State} (q : Steps p.tables e below S0 S1) (w : W p e below s R n0 Q S1) : W p e below s R n0 Q S0 := W.of (fun _ k => q.trans k) w
theorem w_topI {x x' : Int32} (q : x = x') (w : W p e below s R n0 Q (T.setTop (mkF m pc Ls (.int x' :: st)))) : W p e below s R n0 Q (T.setTop (mkF m pc Ls (.int x :: st))) := by rw [q]; exact w
theorem w_topJ {x x' : Int64} (q : x = x') (w : W p e below s R n0 Q (T.setTop (mkF m pc Ls (.long x' :: st)))) : W p e below s R n0 Q (T.setTop (mkF m pc Ls (.long x :: st))) := by rw [q]; exact w
theorem Sn.size (X : Sn Z n0 bs mx own nm ret p l e R s m args below meth c T h cells slots) : n0 ≤ h.size := by obtain ⟨_, _, _, _, q, _⟩ := X; exact q
theorem Sn.more (X : Sn Z n0 bs mx own nm ret p l e R s m args below meth c T h cells slots) {cells' slots' : Nat} (q : cells ≤ cells' ∧ slots ≤ slots' ∧ cells' ≤ R.cells ∧ slots' ≤ R.slots) : Sn Z n0 bs mx own nm ret p l e R s m args below meth c T h cells' slots' := by
  obtain ⟨locs, X, r1, r2, r3, -, -, r⟩ := X; exact ⟨locs, X.more q.1 q.2.1, r1, r2, r3, q.2.2.1, q.2.2.2, r⟩
theorem w_iload (X : Sn Z n0 bs mx own nm ret p l e R s m args below meth c T h cells slots) {v : Int32} (hd : decode bs pc = .ok (.iload k, 2)) (hl : Ls[k]? = some (.val (.int v))) (hp : pc + 2 = pc')
    (w : W p e below s R n0 Q (T.setTop (mkF m pc' Ls (.int v :: st)))) : W p e below s R n0 Q (T.setTop (mkF m pc Ls (st))) := by
  obtain ⟨locs, X, eT, N, hs0, hcl, hsl, hx, hZ, rfl, hml, hown, hnm, hret, hlk⟩ := X
  subst hp
  exact W.of (fun t k => XS.iload X.here hx rfl hd hl k) w
theorem w_iloadN (X : Sn Z n0 bs mx own nm ret p l e R s m args below meth c T h cells slots) {v : Int32} {q : Fin 4} (hd : decode bs pc = .ok (.iload_n q, 1)) (hl : Ls[q.val]? = some (.val (.int v))) (hp : pc + 1 = pc')
    (w : W p e below s R n0 Q (T.setTop (mkF m pc' Ls (.int v :: st)))) : W p e below s R n0 Q (T.setTop (mkF m pc Ls (st))) := by
  obtain ⟨locs, X, eT, N, hs0, hcl, hsl, hx, hZ, rfl, hml, hown, hnm, hret, hlk⟩ := X
  subst hp
  exact W.of (fun t k => XS.iloadN X.here hx rfl hd hl k) w
theorem w_istore (X : Sn Z n0 bs mx own nm ret p l e R s m args below meth c T h cells slots) {v : Int32} (hd : decode bs pc = .ok (.istore k, 2)) (hl : storeLocals Ls k (.int v) = some L') (hp : pc + 2 = pc')
    (w : W p e below s R n0 Q (T.setTop (mkF m pc' L' (st)))) : W p e below s R n0 Q (T.setTop (mkF m pc Ls (.int v :: st))) := by
  obtain ⟨locs, X, eT, N, hs0, hcl, hsl, hx, hZ, rfl, hml, hown, hnm, hret, hlk⟩ := X
  subst hp
  exact W.of (fun t k => XS.istore X.here hx rfl hd rfl hl k) w
theorem w_istoreN (X : Sn Z n0 bs mx own nm ret p l e R s m args below meth c T h cells slots) {v : Int32} {q : Fin 4} (hd : decode bs pc = .ok (.istore_n q, 1)) (hl : storeLocals Ls q.val (.int v) = some L') (hp : pc + 1 = pc')
    (w : W p e below s R n0 Q (T.setTop (mkF m pc' L' (st)))) : W p e below s R n0 Q (T.setTop (mkF m pc Ls (.int v :: st))) := by
  obtain ⟨locs, X, eT, N, hs0, hcl, hsl, hx, hZ, rfl, hml, hown, hnm, hret, hlk⟩ := X
  subst hp
  exact W.of (fun t k => XS.istoreN X.here hx rfl hd rfl hl k) w
theorem w_lload (X : Sn Z n0 bs mx own nm ret p l e R s m args below meth c T h cells slots) {v : Int64} (hd : decode bs pc = .ok (.lload k, 2)) (hl : Ls[k]? = some (.val (.long v))) (hp : pc + 2 = pc')
    (w : W p e below s R n0 Q (T.setTop (mkF m pc' Ls (.long v :: st)))) : W p e below s R n0 Q (T.setTop (mkF m pc Ls (st))) := by
  obtain ⟨locs, X, eT, N, hs0, hcl, hsl, hx, hZ, rfl, hml, hown, hnm, hret, hlk⟩ := X
  subst hp
  exact W.of (fun t k => XS.lload X.here hx rfl hd hl k) w
theorem w_lloadN (X : Sn Z n0 bs mx own nm ret p l e R s m args below meth c T h cells slots) {v : Int64} {q : Fin 4} (hd : decode bs pc = .ok (.lload_n q, 1)) (hl : Ls[q.val]? = some (.val (.long v))) (hp : pc + 1 = pc')
    (w : W p e below s R n0 Q (T.setTop (mkF m pc' Ls (.long v :: st)))) : W p e below s R n0 Q (T.setTop (mkF m pc Ls (st))) := by
  obtain ⟨locs, X, eT, N, hs0, hcl, hsl, hx, hZ, rfl, hml, hown, hnm, hret, hlk⟩ := X
  subst hp
  exact W.of (fun t k => XS.lloadN X.here hx rfl hd hl k) w
theorem w_lstore (X : Sn Z n0 bs mx own nm ret p l e R s m args below meth c T h cells slots) {v : Int64} (hd : decode bs pc = .ok (.lstore k, 2)) (hl : storeLocals Ls k (.long v) = some L') (hp : pc + 2 = pc')
    (w : W p e below s R n0 Q (T.setTop (mkF m pc' L' (st)))) : W p e below s R n0 Q (T.setTop (mkF m pc Ls (.long v :: st))) := by
  obtain ⟨locs, X, eT, N, hs0, hcl, hsl, hx, hZ, rfl, hml, hown, hnm, hret, hlk⟩ := X
  subst hp
  exact W.of (fun t k => XS.lstore X.here hx rfl hd rfl hl k) w
theorem w_lstoreN (X : Sn Z n0 bs mx own nm ret p l e R s m args below meth c T h cells slots) {v : Int64} {q : Fin 4} (hd : decode bs pc = .ok (.lstore_n q, 1)) (hl : storeLocals Ls q.val (.long v) = some L') (hp : pc + 1 = pc')
    (w : W p e below s R n0 Q (T.setTop (mkF m pc' L' (st)))) : W p e below s R n0 Q (T.setTop (mkF m pc Ls (.long v :: st))) := by
  obtain ⟨locs, X, eT, N, hs0, hcl, hsl, hx, hZ, rfl, hml, hown, hnm, hret, hlk⟩ := X
  subst hp
  exact W.of (fun t k => XS.lstoreN X.here hx rfl hd rfl hl k) w
theorem w_aload (X : Sn Z n0 bs mx own nm ret p l e R s m args below meth c T h cells slots) {v : Value} (hd : decode bs pc = .ok (.aload k, 2)) (hl : Ls[k]? = some (.val v)) (hv : v.isRef = true) (hp : pc + 2 = pc')
    (w : W p e below s R n0 Q (T.setTop (mkF m pc' Ls (v :: st)))) : W p e below s R n0 Q (T.setTop (mkF m pc Ls (st))) := by
  obtain ⟨locs, X, eT, N, hs0, hcl, hsl, hx, hZ, rfl, hml, hown, hnm, hret, hlk⟩ := X
  subst hp
  exact W.of (fun t k => XS.aload X.here hx rfl hd hl hv k) w
theorem w_aloadN (X : Sn Z n0 bs mx own nm ret p l e R s m args below meth c T h cells slots) {v : Value} {q : Fin 4} (hd : decode bs pc = .ok (.aload_n q, 1)) (hl : Ls[q.val]? = some (.val v)) (hv : v.isRef = true) (hp : pc + 1 = pc')
    (w : W p e below s R n0 Q (T.setTop (mkF m pc' Ls (v :: st)))) : W p e below s R n0 Q (T.setTop (mkF m pc Ls (st))) := by
  obtain ⟨locs, X, eT, N, hs0, hcl, hsl, hx, hZ, rfl, hml, hown, hnm, hret, hlk⟩ := X
  subst hp
  exact W.of (fun t k => XS.aloadN X.here hx rfl hd hl hv k) w
theorem w_astore (X : Sn Z n0 bs mx own nm ret p l e R s m args below meth c T h cells slots) {v : Value} (hd : decode bs pc = .ok (.astore k, 2)) (hv : v.isRef = true) (hl : storeLocals Ls k v = some L') (hp : pc + 2 = pc')
    (w : W p e below s R n0 Q (T.setTop (mkF m pc' L' (st)))) : W p e below s R n0 Q (T.setTop (mkF m pc Ls (v :: st))) := by
  obtain ⟨locs, X, eT, N, hs0, hcl, hsl, hx, hZ, rfl, hml, hown, hnm, hret, hlk⟩ := X
  subst hp
  exact W.of (fun t k => XS.astore X.here hx rfl hd rfl hv hl k) w
theorem w_astoreN (X : Sn Z n0 bs mx own nm ret p l e R s m args below meth c T h cells slots) {v : Value} {q : Fin 4} (hd : decode bs pc = .ok (.astore_n q, 1)) (hv : v.isRef = true) (hl : storeLocals Ls q.val v = some L') (hp : pc + 1 = pc')
    (w : W p e below s R n0 Q (T.setTop (mkF m pc' L' (st)))) : W p e below s R n0 Q (T.setTop (mkF m pc Ls (v :: st))) := by
  obtain ⟨locs, X, eT, N, hs0, hcl, hsl, hx, hZ, rfl, hml, hown, hnm, hret, hlk⟩ := X
  subst hp
  exact W.of (fun t k => XS.astoreN X.here hx rfl hd rfl hv hl k) w
theorem w_iconst (X : Sn Z n0 bs mx own nm ret p l e R s m args below meth c T h cells slots) {z : Int32} (hd : decode bs pc = .ok (.iconst o, 1)) (hz : Int32.ofInt o = z) (hp : pc + 1 = pc')
    (w : W p e below s R n0 Q (T.setTop (mkF m pc' Ls (.int z :: st)))) : W p e below s R n0 Q (T.setTop (mkF m pc Ls (st))) := by
  obtain ⟨locs, X, eT, N, hs0, hcl, hsl, hx, hZ, rfl, hml, hown, hnm, hret, hlk⟩ := X
  subst hp
  exact W.of (fun t k => by subst hz; exact XS.iconst X.here hx rfl hd k) w
theorem w_bipush (X : Sn Z n0 bs mx own nm ret p l e R s m args below meth c T h cells slots) {z : Int32} (hd : decode bs pc = .ok (.bipush o, 2)) (hz : (Int8.ofInt o).toInt32 = z) (hp : pc + 2 = pc')
    (w : W p e below s R n0 Q (T.setTop (mkF m pc' Ls (.int z :: st)))) : W p e below s R n0 Q (T.setTop (mkF m pc Ls (st))) := by
  obtain ⟨locs, X, eT, N, hs0, hcl, hsl, hx, hZ, rfl, hml, hown, hnm, hret, hlk⟩ := X
  subst hp
  exact W.of (fun t k => by subst hz; exact XS.bipush X.here hx rfl hd k) w
theorem w_sipush (X : Sn Z n0 bs mx own nm ret p l e R s m args below meth c T h cells slots) {z : Int32} (hd : decode bs pc = .ok (.sipush o, 3)) (hz : (Int16.ofInt o).toInt32 = z) (hp : pc + 3 = pc')
    (w : W p e below s R n0 Q (T.setTop (mkF m pc' Ls (.int z :: st)))) : W p e below s R n0 Q (T.setTop (mkF m pc Ls (st))) := by
  obtain ⟨locs, X, eT, N, hs0, hcl, hsl, hx, hZ, rfl, hml, hown, hnm, hret, hlk⟩ := X
  subst hp
  exact W.of (fun t k => by subst hz; exact XS.sipush X.here hx rfl hd k) w
theorem w_lconst (X : Sn Z n0 bs mx own nm ret p l e R s m args below meth c T h cells slots) {z : Int64} {q : Fin 2} (hd : decode bs pc = .ok (.lconst q, 1)) (hz : Int64.ofNat q = z) (hp : pc + 1 = pc')
    (w : W p e below s R n0 Q (T.setTop (mkF m pc' Ls (.long z :: st)))) : W p e below s R n0 Q (T.setTop (mkF m pc Ls (st))) := by
  obtain ⟨locs, X, eT, N, hs0, hcl, hsl, hx, hZ, rfl, hml, hown, hnm, hret, hlk⟩ := X
  subst hp
  exact W.of (fun t k => by subst hz; exact XS.lconst X.here hx rfl hd k) w
theorem w_aconst_null (X : Sn Z n0 bs mx own nm ret p l e R s m args below meth c T h cells slots) (hd : decode bs pc = .ok (.aconst_null, 1)) (hp : pc + 1 = pc')
    (w : W p e below s R n0 Q (T.setTop (mkF m pc' Ls (.null :: st)))) : W p e below s R n0 Q (T.setTop (mkF m pc Ls (st))) := by
  obtain ⟨locs, X, eT, N, hs0, hcl, hsl, hx, hZ, rfl, hml, hown, hnm, hret, hlk⟩ := X
  subst hp
  exact W.of (fun t k => XS.aconstNull X.here hx rfl hd k) w
theorem w_ldc (X : Sn Z n0 bs mx own nm ret p l e R s m args below meth c T h cells slots) {z : Int32} {q : Nat} (hd : decode bs pc = .ok (.ldc q, 2)) (hw : (Cond.constant own q z).before a0 Z = true) (hp : pc + 2 = pc')
    (w : W p e below s R n0 Q (T.setTop (mkF m pc' Ls (.int z :: st)))) : W p e below s R n0 Q (T.setTop (mkF m pc Ls (st))) := by
  obtain ⟨locs, X, eT, N, hs0, hcl, hsl, hx, hZ, rfl, hml, hown, hnm, hret, hlk⟩ := X
  subst hp
  exact W.of (fun t k => X.ldcInt (own := own) (v := z) hx hown (mvT (args := args) (s := s) hZ hw rfl) (g := mkF m pc Ls st) rfl hd _ k) w
theorem w_ldc2 (X : Sn Z n0 bs mx own nm ret p l e R s m args below meth c T h cells slots) {z : Int64} {q : Nat} (hd : decode bs pc = .ok (.ldc2_w q, 3)) (hw : (Cond.constantLong own q z).before a0 Z = true) (hp : pc + 3 = pc')
    (w : W p e below s R n0 Q (T.setTop (mkF m pc' Ls (.long z :: st)))) : W p e below s R n0 Q (T.setTop (mkF m pc Ls (st))) := by
  obtain ⟨locs, X, eT, N, hs0, hcl, hsl, hx, hZ, rfl, hml, hown, hnm, hret, hlk⟩ := X
  subst hp
  exact W.of (fun t k => X.ldc2Long (own := own) (v := z) hx hown (mvT (args := args) (s := s) hZ hw rfl) (g := mkF m pc Ls st) rfl hd _ k) w
theorem w_iadd (X : Sn Z n0 bs mx own nm ret p l e R s m args below meth c T h cells slots) {x y : Int32} (hd : decode bs pc = .ok (.iadd, 1)) (hp : pc + 1 = pc')
    (w : W p e below s R n0 Q (T.setTop (mkF m pc' Ls (.int (x + y) :: st)))) : W p e below s R n0 Q (T.setTop (mkF m pc Ls (.int y :: .int x :: st))) := by
  obtain ⟨locs, X, eT, N, hs0, hcl, hsl, hx, hZ, rfl, hml, hown, hnm, hret, hlk⟩ := X
  subst hp
  exact W.of (fun t k => XS.iadd X.here hx rfl hd rfl k) w
theorem w_ladd (X : Sn Z n0 bs mx own nm ret p l e R s m args below meth c T h cells slots) {x y : Int64} (hd : decode bs pc = .ok (.ladd, 1)) (hp : pc + 1 = pc')
    (w : W p e below s R n0 Q (T.setTop (mkF m pc' Ls (.long (x + y) :: st)))) : W p e below s R n0 Q (T.setTop (mkF m pc Ls (.long y :: .long x :: st))) := by
  obtain ⟨locs, X, eT, N, hs0, hcl, hsl, hx, hZ, rfl, hml, hown, hnm, hret, hlk⟩ := X
  subst hp
  exact W.of (fun t k => XS.ladd X.here hx rfl hd rfl k) w
theorem w_isub (X : Sn Z n0 bs mx own nm ret p l e R s m args below meth c T h cells slots) {x y : Int32} (hd : decode bs pc = .ok (.isub, 1)) (hp : pc + 1 = pc')
    (w : W p e below s R n0 Q (T.setTop (mkF m pc' Ls (.int (x - y) :: st)))) : W p e below s R n0 Q (T.setTop (mkF m pc Ls (.int y :: .int x :: st))) := by
  obtain ⟨locs, X, eT, N, hs0, hcl, hsl, hx, hZ, rfl, hml, hown, hnm, hret, hlk⟩ := X
  subst hp
  exact W.of (fun t k => XS.isub X.here hx rfl hd rfl k) w
theorem w_lsub (X : Sn Z n0 bs mx own nm ret p l e R s m args below meth c T h cells slots) {x y : Int64} (hd : decode bs pc = .ok (.lsub, 1)) (hp : pc + 1 = pc')
    (w : W p e below s R n0 Q (T.setTop (mkF m pc' Ls (.long (x - y) :: st)))) : W p e below s R n0 Q (T.setTop (mkF m pc Ls (.long y :: .long x :: st))) := by
  obtain ⟨locs, X, eT, N, hs0, hcl, hsl, hx, hZ, rfl, hml, hown, hnm, hret, hlk⟩ := X
  subst hp
  exact W.of (fun t k => XS.lsub X.here hx rfl hd rfl k) w
theorem w_imul (X : Sn Z n0 bs mx own nm ret p l e R s m args below meth c T h cells slots) {x y : Int32} (hd : decode bs pc = .ok (.imul, 1)) (hp : pc + 1 = pc')
    (w : W p e below s R n0 Q (T.setTop (mkF m pc' Ls (.int (x * y) :: st)))) : W p e below s R n0 Q (T.setTop (mkF m pc Ls (.int y :: .int x :: st))) := by
  obtain ⟨locs, X, eT, N, hs0, hcl, hsl, hx, hZ, rfl, hml, hown, hnm, hret, hlk⟩ := X
  subst hp
  exact W.of (fun t k => XS.imul X.here hx rfl hd rfl k) w
theorem w_lmul (X : Sn Z n0 bs mx own nm ret p l e R s m args below meth c T h cells slots) {x y : Int64} (hd : decode bs pc = .ok (.lmul, 1)) (hp : pc + 1 = pc')
    (w : W p e below s R n0 Q (T.setTop (mkF m pc' Ls (.long (x * y) :: st)))) : W p e below s R n0 Q (T.setTop (mkF m pc Ls (.long y :: .long x :: st))) := by
  obtain ⟨locs, X, eT, N, hs0, hcl, hsl, hx, hZ, rfl, hml, hown, hnm, hret, hlk⟩ := X
  subst hp
  exact W.of (fun t k => XS.lmul X.here hx rfl hd rfl k) w
theorem w_iand (X : Sn Z n0 bs mx own nm ret p l e R s m args below meth c T h cells slots) {x y : Int32} (hd : decode bs pc = .ok (.iand, 1)) (hp : pc + 1 = pc')
    (w : W p e below s R n0 Q (T.setTop (mkF m pc' Ls (.int (x &&& y) :: st)))) : W p e below s R n0 Q (T.setTop (mkF m pc Ls (.int y :: .int x :: st))) := by
  obtain ⟨locs, X, eT, N, hs0, hcl, hsl, hx, hZ, rfl, hml, hown, hnm, hret, hlk⟩ := X
  subst hp
  exact W.of (fun t k => XS.iand X.here hx rfl hd rfl k) w
theorem w_land (X : Sn Z n0 bs mx own nm ret p l e R s m args below meth c T h cells slots) {x y : Int64} (hd : decode bs pc = .ok (.land, 1)) (hp : pc + 1 = pc')
    (w : W p e below s R n0 Q (T.setTop (mkF m pc' Ls (.long (x &&& y) :: st)))) : W p e below s R n0 Q (T.setTop (mkF m pc Ls (.long y :: .long x :: st))) := by
  obtain ⟨locs, X, eT, N, hs0, hcl, hsl, hx, hZ, rfl, hml, hown, hnm, hret, hlk⟩ := X
  subst hp
  exact W.of (fun t k => XS.land X.here hx rfl hd rfl k) w
theorem w_ior (X : Sn Z n0 bs mx own nm ret p l e R s m args below meth c T h cells slots) {x y : Int32} (hd : decode bs pc = .ok (.ior, 1)) (hp : pc + 1 = pc')
    (w : W p e below s R n0 Q (T.setTop (mkF m pc' Ls (.int (x ||| y) :: st)))) : W p e below s R n0 Q (T.setTop (mkF m pc Ls (.int y :: .int x :: st))) := by
  obtain ⟨locs, X, eT, N, hs0, hcl, hsl, hx, hZ, rfl, hml, hown, hnm, hret, hlk⟩ := X
  subst hp
  exact W.of (fun t k => XS.ior X.here hx rfl hd rfl k) w
theorem w_lor (X : Sn Z n0 bs mx own nm ret p l e R s m args below meth c T h cells slots) {x y : Int64} (hd : decode bs pc = .ok (.lor, 1)) (hp : pc + 1 = pc')
    (w : W p e below s R n0 Q (T.setTop (mkF m pc' Ls (.long (x ||| y) :: st)))) : W p e below s R n0 Q (T.setTop (mkF m pc Ls (.long y :: .long x :: st))) := by
  obtain ⟨locs, X, eT, N, hs0, hcl, hsl, hx, hZ, rfl, hml, hown, hnm, hret, hlk⟩ := X
  subst hp
  exact W.of (fun t k => XS.lor X.here hx rfl hd rfl k) w
theorem w_ixor (X : Sn Z n0 bs mx own nm ret p l e R s m args below meth c T h cells slots) {x y : Int32} (hd : decode bs pc = .ok (.ixor, 1)) (hp : pc + 1 = pc')
    (w : W p e below s R n0 Q (T.setTop (mkF m pc' Ls (.int (x ^^^ y) :: st)))) : W p e below s R n0 Q (T.setTop (mkF m pc Ls (.int y :: .int x :: st))) := by
  obtain ⟨locs, X, eT, N, hs0, hcl, hsl, hx, hZ, rfl, hml, hown, hnm, hret, hlk⟩ := X
  subst hp
  exact W.of (fun t k => XS.ixor X.here hx rfl hd rfl k) w
theorem w_lxor (X : Sn Z n0 bs mx own nm ret p l e R s m args below meth c T h cells slots) {x y : Int64} (hd : decode bs pc = .ok (.lxor, 1)) (hp : pc + 1 = pc')
    (w : W p e below s R n0 Q (T.setTop (mkF m pc' Ls (.long (x ^^^ y) :: st)))) : W p e below s R n0 Q (T.setTop (mkF m pc Ls (.long y :: .long x :: st))) := by
  obtain ⟨locs, X, eT, N, hs0, hcl, hsl, hx, hZ, rfl, hml, hown, hnm, hret, hlk⟩ := X
  subst hp
  exact W.of (fun t k => XS.lxor X.here hx rfl hd rfl k) w
theorem w_ishl (X : Sn Z n0 bs mx own nm ret p l e R s m args below meth c T h cells slots) {x y : Int32} (hd : decode bs pc = .ok (.ishl, 1)) (hp : pc + 1 = pc')
    (w : W p e below s R n0 Q (T.setTop (mkF m pc' Ls (.int (isl x y) :: st)))) : W p e below s R n0 Q (T.setTop (mkF m pc Ls (.int y :: .int x :: st))) := by
  obtain ⟨locs, X, eT, N, hs0, hcl, hsl, hx, hZ, rfl, hml, hown, hnm, hret, hlk⟩ := X
  subst hp
  exact W.of (fun t k => XS.ishl X.here hx rfl hd rfl k) w
theorem w_ishr (X : Sn Z n0 bs mx own nm ret p l e R s m args below meth c T h cells slots) {x y : Int32} (hd : decode bs pc = .ok (.ishr, 1)) (hp : pc + 1 = pc')
    (w : W p e below s R n0 Q (T.setTop (mkF m pc' Ls (.int (isr x y) :: st)))) : W p e below s R n0 Q (T.setTop (mkF m pc Ls (.int y :: .int x :: st))) := by
  obtain ⟨locs, X, eT, N, hs0, hcl, hsl, hx, hZ, rfl, hml, hown, hnm, hret, hlk⟩ := X
  subst hp
  exact W.of (fun t k => XS.ishr X.here hx rfl hd rfl k) w
theorem w_iushr (X : Sn Z n0 bs mx own nm ret p l e R s m args below meth c T h cells slots) {x y : Int32} (hd : decode bs pc = .ok (.iushr, 1)) (hp : pc + 1 = pc')
    (w : W p e below s R n0 Q (T.setTop (mkF m pc' Ls (.int (ius x y) :: st)))) : W p e below s R n0 Q (T.setTop (mkF m pc Ls (.int y :: .int x :: st))) := by
  obtain ⟨locs, X, eT, N, hs0, hcl, hsl, hx, hZ, rfl, hml, hown, hnm, hret, hlk⟩ := X
  subst hp
  exact W.of (fun t k => XS.iushr X.here hx rfl hd rfl k) w
theorem w_lshl (X : Sn Z n0 bs mx own nm ret p l e R s m args below meth c T h cells slots) {x : Int64} {y : Int32} (hd : decode bs pc = .ok (.lshl, 1)) (hp : pc + 1 = pc')
    (w : W p e below s R n0 Q (T.setTop (mkF m pc' Ls (.long (lsl x y) :: st)))) : W p e below s R n0 Q (T.setTop (mkF m pc Ls (.int y :: .long x :: st))) := by
  obtain ⟨locs, X, eT, N, hs0, hcl, hsl, hx, hZ, rfl, hml, hown, hnm, hret, hlk⟩ := X
  subst hp
  exact W.of (fun t k => XS.lshl X.here hx rfl hd rfl k) w
theorem w_lshr (X : Sn Z n0 bs mx own nm ret p l e R s m args below meth c T h cells slots) {x : Int64} {y : Int32} (hd : decode bs pc = .ok (.lshr, 1)) (hp : pc + 1 = pc')
    (w : W p e below s R n0 Q (T.setTop (mkF m pc' Ls (.long (lsr x y) :: st)))) : W p e below s R n0 Q (T.setTop (mkF m pc Ls (.int y :: .long x :: st))) := by
  obtain ⟨locs, X, eT, N, hs0, hcl, hsl, hx, hZ, rfl, hml, hown, hnm, hret, hlk⟩ := X
  subst hp
  exact W.of (fun t k => XS.lshr X.here hx rfl hd rfl k) w
theorem w_lushr (X : Sn Z n0 bs mx own nm ret p l e R s m args below meth c T h cells slots) {x : Int64} {y : Int32} (hd : decode bs pc = .ok (.lushr, 1)) (hp : pc + 1 = pc')
    (w : W p e below s R n0 Q (T.setTop (mkF m pc' Ls (.long (lus x y) :: st)))) : W p e below s R n0 Q (T.setTop (mkF m pc Ls (.int y :: .long x :: st))) := by
  obtain ⟨locs, X, eT, N, hs0, hcl, hsl, hx, hZ, rfl, hml, hown, hnm, hret, hlk⟩ := X
  subst hp
  exact W.of (fun t k => XS.lushr X.here hx rfl hd rfl k) w
theorem w_idiv (X : Sn Z n0 bs mx own nm ret p l e R s m args below meth c T h cells slots) {x y : Int32} (hd : decode bs pc = .ok (.idiv, 1)) (hy : y ≠ 0) (hp : pc + 1 = pc')
    (w : W p e below s R n0 Q (T.setTop (mkF m pc' Ls (.int (x / y) :: st)))) : W p e below s R n0 Q (T.setTop (mkF m pc Ls (.int y :: .int x :: st))) := by
  obtain ⟨locs, X, eT, N, hs0, hcl, hsl, hx, hZ, rfl, hml, hown, hnm, hret, hlk⟩ := X
  subst hp
  exact W.of (fun t k => XS.idiv X.here hx rfl hd rfl hy k) w
theorem w_irem (X : Sn Z n0 bs mx own nm ret p l e R s m args below meth c T h cells slots) {x y : Int32} (hd : decode bs pc = .ok (.irem, 1)) (hy : y ≠ 0) (hp : pc + 1 = pc')
    (w : W p e below s R n0 Q (T.setTop (mkF m pc' Ls (.int (x % y) :: st)))) : W p e below s R n0 Q (T.setTop (mkF m pc Ls (.int y :: .int x :: st))) := by
  obtain ⟨locs, X, eT, N, hs0, hcl, hsl, hx, hZ, rfl, hml, hown, hnm, hret, hlk⟩ := X
  subst hp
  exact W.of (fun t k => iremM X hx rfl hd rfl hy k) w
theorem w_ineg (X : Sn Z n0 bs mx own nm ret p l e R s m args below meth c T h cells slots) {x : Int32} (hd : decode bs pc = .ok (.ineg, 1)) (hp : pc + 1 = pc')
    (w : W p e below s R n0 Q (T.setTop (mkF m pc' Ls (.int (-x) :: st)))) : W p e below s R n0 Q (T.setTop (mkF m pc Ls (.int x :: st))) := by
  obtain ⟨locs, X, eT, N, hs0, hcl, hsl, hx, hZ, rfl, hml, hown, hnm, hret, hlk⟩ := X
  subst hp
  exact W.of (fun t k => XS.ineg X.here hx rfl hd rfl k) w
theorem w_lneg (X : Sn Z n0 bs mx own nm ret p l e R s m args below meth c T h cells slots) {x : Int64} (hd : decode bs pc = .ok (.lneg, 1)) (hp : pc + 1 = pc')
    (w : W p e below s R n0 Q (T.setTop (mkF m pc' Ls (.long (-x) :: st)))) : W p e below s R n0 Q (T.setTop (mkF m pc Ls (.long x :: st))) := by
  obtain ⟨locs, X, eT, N, hs0, hcl, hsl, hx, hZ, rfl, hml, hown, hnm, hret, hlk⟩ := X
  subst hp
  exact W.of (fun t k => XS.lneg X.here hx rfl hd rfl k) w
theorem w_i2l (X : Sn Z n0 bs mx own nm ret p l e R s m args below meth c T h cells slots) {x : Int32} (hd : decode bs pc = .ok (.i2l, 1)) (hp : pc + 1 = pc')
    (w : W p e below s R n0 Q (T.setTop (mkF m pc' Ls (.long x.toInt64 :: st)))) : W p e below s R n0 Q (T.setTop (mkF m pc Ls (.int x :: st))) := by
  obtain ⟨locs, X, eT, N, hs0, hcl, hsl, hx, hZ, rfl, hml, hown, hnm, hret, hlk⟩ := X
  subst hp
  exact W.of (fun t k => XS.i2l X.here hx rfl hd rfl k) w
theorem w_l2i (X : Sn Z n0 bs mx own nm ret p l e R s m args below meth c T h cells slots) {x : Int64} (hd : decode bs pc = .ok (.l2i, 1)) (hp : pc + 1 = pc')
    (w : W p e below s R n0 Q (T.setTop (mkF m pc' Ls (.int x.toInt32 :: st)))) : W p e below s R n0 Q (T.setTop (mkF m pc Ls (.long x :: st))) := by
  obtain ⟨locs, X, eT, N, hs0, hcl, hsl, hx, hZ, rfl, hml, hown, hnm, hret, hlk⟩ := X
  subst hp
  exact W.of (fun t k => XS.l2i X.here hx rfl hd rfl k) w
theorem w_i2b (X : Sn Z n0 bs mx own nm ret p l e R s m args below meth c T h cells slots) {x : Int32} (hd : decode bs pc = .ok (.i2b, 1)) (hp : pc + 1 = pc')
    (w : W p e below s R n0 Q (T.setTop (mkF m pc' Ls (.int x.toInt8.toInt32 :: st)))) : W p e below s R n0 Q (T.setTop (mkF m pc Ls (.int x :: st))) := by
  obtain ⟨locs, X, eT, N, hs0, hcl, hsl, hx, hZ, rfl, hml, hown, hnm, hret, hlk⟩ := X
  subst hp
  exact W.of (fun t k => XS.i2b X.here hx rfl hd rfl k) w
theorem w_i2s (X : Sn Z n0 bs mx own nm ret p l e R s m args below meth c T h cells slots) {x : Int32} (hd : decode bs pc = .ok (.i2s, 1)) (hp : pc + 1 = pc')
    (w : W p e below s R n0 Q (T.setTop (mkF m pc' Ls (.int x.toInt16.toInt32 :: st)))) : W p e below s R n0 Q (T.setTop (mkF m pc Ls (.int x :: st))) := by
  obtain ⟨locs, X, eT, N, hs0, hcl, hsl, hx, hZ, rfl, hml, hown, hnm, hret, hlk⟩ := X
  subst hp
  exact W.of (fun t k => XS.i2s X.here hx rfl hd rfl k) w
theorem w_dup (X : Sn Z n0 bs mx own nm ret p l e R s m args below meth c T h cells slots) {v : Value} (hd : decode bs pc = .ok (.dup, 1)) (hv : v.category = 1) (hp : pc + 1 = pc')
    (w : W p e below s R n0 Q (T.setTop (mkF m pc' Ls (v :: v :: st)))) : W p e below s R n0 Q (T.setTop (mkF m pc Ls (v :: st))) := by
  obtain ⟨locs, X, eT, N, hs0, hcl, hsl, hx, hZ, rfl, hml, hown, hnm, hret, hlk⟩ := X
  subst hp
  exact W.of (fun t k => XS.dup X.here hx rfl hd rfl hv k) w
theorem w_dup2 (X : Sn Z n0 bs mx own nm ret p l e R s m args below meth c T h cells slots) {v u : Value} (hd : decode bs pc = .ok (.dup2, 1)) (hv : v.category = 1) (hu : u.category = 1) (hp : pc + 1 = pc')
    (w : W p e below s R n0 Q (T.setTop (mkF m pc' Ls (v :: u :: v :: u :: st)))) : W p e below s R n0 Q (T.setTop (mkF m pc Ls (v :: u :: st))) := by
  obtain ⟨locs, X, eT, N, hs0, hcl, hsl, hx, hZ, rfl, hml, hown, hnm, hret, hlk⟩ := X
  subst hp
  exact W.of (fun t k => XT.dup2 X.here hx rfl hd rfl hv hu k) w
theorem w_pop (X : Sn Z n0 bs mx own nm ret p l e R s m args below meth c T h cells slots) {v : Value} (hd : decode bs pc = .ok (.pop, 1)) (hv : v.category = 1) (hp : pc + 1 = pc')
    (w : W p e below s R n0 Q (T.setTop (mkF m pc' Ls (st)))) : W p e below s R n0 Q (T.setTop (mkF m pc Ls (v :: st))) := by
  obtain ⟨locs, X, eT, N, hs0, hcl, hsl, hx, hZ, rfl, hml, hown, hnm, hret, hlk⟩ := X
  subst hp
  exact W.of (fun t k => XS.pop X.here hx rfl hd rfl hv k) w
theorem w_iinc (X : Sn Z n0 bs mx own nm ret p l e R s m args below meth c T h cells slots) {x z : Int32} (hd : decode bs pc = .ok (.iinc k o, 3)) (hl : Ls[k]? = some (.val (.int x))) (hz : x + Int32.ofInt o = z) (hl' : storeLocals Ls k (.int z) = some L') (hp : pc + 3 = pc')
    (w : W p e below s R n0 Q (T.setTop (mkF m pc' L' (st)))) : W p e below s R n0 Q (T.setTop (mkF m pc Ls (st))) := by
  obtain ⟨locs, X, eT, N, hs0, hcl, hsl, hx, hZ, rfl, hml, hown, hnm, hret, hlk⟩ := X
  subst hp hz
  exact W.of (fun t k => XS.iinc X.here hx rfl hd hl hl' k) w
theorem w_goto (X : Sn Z n0 bs mx own nm ret p l e R s m args below meth c T h cells slots) (hd : decode bs pc = .ok (.goto o, 3)) (hp : 0 ≤ (pc : Int) + o ∧ ((pc : Int) + o).toNat = pc')
    (w : W p e below s R n0 Q (T.setTop (mkF m pc' Ls (st)))) : W p e below s R n0 Q (T.setTop (mkF m pc Ls (st))) := by
  obtain ⟨locs, X, eT, N, hs0, hcl, hsl, hx, hZ, rfl, hml, hown, hnm, hret, hlk⟩ := X
  exact W.of (fun t k => XS.goto X.here hx rfl rfl hd hp.1 hp.2 k) w
theorem hI_eq {x y : Int32} : if_icmp.holds .eq x y = decide (x = y) := by by_cases q : x = y <;> simp [q, (teq · |>.1), (feq · |>.1)]
theorem hI_ne {x y : Int32} : if_icmp.holds .ne x y = decide (x ≠ y) := by by_cases q : x = y <;> simp [q, (teq · |>.2), (feq · |>.2)]
theorem hI_lt {x y : Int32} : if_icmp.holds .lt x y = decide (x.toInt < y.toInt) := by
  by_cases q : x < y
  · rw [(tlt q).1]; exact (decide_eq_true (Int32.lt_iff_toInt_lt.mp q)).symm
  · rw [(flt q).1]; exact (decide_eq_false fun z => q (Int32.lt_iff_toInt_lt.mpr z)).symm
theorem hI_ge {x y : Int32} : if_icmp.holds .ge x y = decide (x.toInt ≥ y.toInt) := by
  by_cases q : x < y
  · rw [(tlt q).2.1]; exact (decide_eq_false fun z => by have := Int32.lt_iff_toInt_lt.mp q; omega).symm
  · rw [(flt q).2.1]; exact (decide_eq_true (by rw [Int32.lt_iff_toInt_lt] at q; omega)).symm
theorem hI_gt {x y : Int32} : if_icmp.holds .gt x y = decide (x.toInt > y.toInt) := by
  by_cases q : y < x
  · rw [(tlt q).2.2.1]; exact (decide_eq_true (Int32.lt_iff_toInt_lt.mp q)).symm
  · rw [(flt q).2.2.1]; exact (decide_eq_false fun z => q (Int32.lt_iff_toInt_lt.mpr z)).symm
theorem hI_le {x y : Int32} : if_icmp.holds .le x y = decide (x.toInt ≤ y.toInt) := by
  by_cases q : y < x
  · rw [(tlt q).2.2.2]; exact (decide_eq_false fun z => by have := Int32.lt_iff_toInt_lt.mp q; omega).symm
  · rw [(flt q).2.2.2]; exact (decide_eq_true (by rw [Int32.lt_iff_toInt_lt] at q; omega)).symm
theorem w_icmp_eq (X : Sn Z n0 bs mx own nm ret p l e R s m args below meth c T h cells slots) {x y : Int32} (hd : decode bs pc = .ok (.if_icmp .eq o, 3)) (hp : 0 ≤ (pc : Int) + o ∧ ((pc : Int) + o).toNat = pc1 ∧ pc + 3 = pc2)
    (yes : x = y → W p e below s R n0 Q (T.setTop (mkF m pc1 Ls (st)))) (no : x ≠ y → W p e below s R n0 Q (T.setTop (mkF m pc2 Ls (st)))) : W p e below s R n0 Q (T.setTop (mkF m pc Ls (.int y :: .int x :: st))) := by
  obtain ⟨locs, X, eT, N, hs0, hcl, hsl, hx, hZ, rfl, hml, hown, hnm, hret, hlk⟩ := X
  by_cases z : x = y
  · exact W.of (fun t k => XS.icmpYes X.here hx rfl rfl hd rfl (hI_eq.trans (decide_eq_true z)) hp.1 hp.2.1 k) (yes z)
  · have w := no (z)
    rw [← hp.2.2] at w
    exact W.of (fun t k => XS.icmpNo X.here hx rfl hd rfl (hI_eq.trans (decide_eq_false z)) k) w
theorem w_if_eq (X : Sn Z n0 bs mx own nm ret p l e R s m args below meth c T h cells slots) {x : Int32} (hd : decode bs pc = .ok (.ifCond .eq o, 3)) (hp : 0 ≤ (pc : Int) + o ∧ ((pc : Int) + o).toNat = pc1 ∧ pc + 3 = pc2)
    (yes : x = 0 → W p e below s R n0 Q (T.setTop (mkF m pc1 Ls (st)))) (no : x ≠ 0 → W p e below s R n0 Q (T.setTop (mkF m pc2 Ls (st)))) : W p e below s R n0 Q (T.setTop (mkF m pc Ls (.int x :: st))) := by
  obtain ⟨locs, X, eT, N, hs0, hcl, hsl, hx, hZ, rfl, hml, hown, hnm, hret, hlk⟩ := X
  have hq : ifCond.holds .eq x = decide (x = 0) := (if0 _ _).trans hI_eq
  by_cases z : x = 0
  · exact W.of (fun t k => XS.ifYes X.here hx rfl rfl hd rfl (hq.trans (decide_eq_true z)) hp.1 hp.2.1 k) (yes z)
  · have w := no (z)
    rw [← hp.2.2] at w
    exact W.of (fun t k => XS.ifNo X.here hx rfl hd rfl (hq.trans (decide_eq_false z)) k) w
theorem w_icmp_ne (X : Sn Z n0 bs mx own nm ret p l e R s m args below meth c T h cells slots) {x y : Int32} (hd : decode bs pc = .ok (.if_icmp .ne o, 3)) (hp : 0 ≤ (pc : Int) + o ∧ ((pc : Int) + o).toNat = pc1 ∧ pc + 3 = pc2)
    (yes : x ≠ y → W p e below s R n0 Q (T.setTop (mkF m pc1 Ls (st)))) (no : x = y → W p e below s R n0 Q (T.setTop (mkF m pc2 Ls (st)))) : W p e below s R n0 Q (T.setTop (mkF m pc Ls (.int y :: .int x :: st))) := by
  obtain ⟨locs, X, eT, N, hs0, hcl, hsl, hx, hZ, rfl, hml, hown, hnm, hret, hlk⟩ := X
  by_cases z : x ≠ y
  · exact W.of (fun t k => XS.icmpYes X.here hx rfl rfl hd rfl (hI_ne.trans (decide_eq_true z)) hp.1 hp.2.1 k) (yes z)
  · have w := no (Classical.byContradiction fun u => z u)
    rw [← hp.2.2] at w
    exact W.of (fun t k => XS.icmpNo X.here hx rfl hd rfl (hI_ne.trans (decide_eq_false z)) k) w
theorem w_if_ne (X : Sn Z n0 bs mx own nm ret p l e R s m args below meth c T h cells slots) {x : Int32} (hd : decode bs pc = .ok (.ifCond .ne o, 3)) (hp : 0 ≤ (pc : Int) + o ∧ ((pc : Int) + o).toNat = pc1 ∧ pc + 3 = pc2)
    (yes : x ≠ 0 → W p e below s R n0 Q (T.setTop (mkF m pc1 Ls (st)))) (no : x = 0 → W p e below s R n0 Q (T.setTop (mkF m pc2 Ls (st)))) : W p e below s R n0 Q (T.setTop (mkF m pc Ls (.int x :: st))) := by
  obtain ⟨locs, X, eT, N, hs0, hcl, hsl, hx, hZ, rfl, hml, hown, hnm, hret, hlk⟩ := X
  have hq : ifCond.holds .ne x = decide (x ≠ 0) := (if0 _ _).trans hI_ne
  by_cases z : x ≠ 0
  · exact W.of (fun t k => XS.ifYes X.here hx rfl rfl hd rfl (hq.trans (decide_eq_true z)) hp.1 hp.2.1 k) (yes z)
  · have w := no (Classical.byContradiction fun u => z u)
    rw [← hp.2.2] at w
    exact W.of (fun t k => XS.ifNo X.here hx rfl hd rfl (hq.trans (decide_eq_false z)) k) w
theorem w_icmp_lt (X : Sn Z n0 bs mx own nm ret p l e R s m args below meth c T h cells slots) {x y : Int32} (hd : decode bs pc = .ok (.if_icmp .lt o, 3)) (hp : 0 ≤ (pc : Int) + o ∧ ((pc : Int) + o).toNat = pc1 ∧ pc + 3 = pc2)
    (yes : x.toInt < y.toInt → W p e below s R n0 Q (T.setTop (mkF m pc1 Ls (st)))) (no : x.toInt ≥ y.toInt → W p e below s R n0 Q (T.setTop (mkF m pc2 Ls (st)))) : W p e below s R n0 Q (T.setTop (mkF m pc Ls (.int y :: .int x :: st))) := by
  obtain ⟨locs, X, eT, N, hs0, hcl, hsl, hx, hZ, rfl, hml, hown, hnm, hret, hlk⟩ := X
  by_cases z : x.toInt < y.toInt
  · exact W.of (fun t k => XS.icmpYes X.here hx rfl rfl hd rfl (hI_lt.trans (decide_eq_true z)) hp.1 hp.2.1 k) (yes z)
  · have w := no (Int.not_lt.mp z)
    rw [← hp.2.2] at w
    exact W.of (fun t k => XS.icmpNo X.here hx rfl hd rfl (hI_lt.trans (decide_eq_false z)) k) w
theorem w_if_lt (X : Sn Z n0 bs mx own nm ret p l e R s m args below meth c T h cells slots) {x : Int32} (hd : decode bs pc = .ok (.ifCond .lt o, 3)) (hp : 0 ≤ (pc : Int) + o ∧ ((pc : Int) + o).toNat = pc1 ∧ pc + 3 = pc2)
    (yes : x.toInt < 0 → W p e below s R n0 Q (T.setTop (mkF m pc1 Ls (st)))) (no : x.toInt ≥ 0 → W p e below s R n0 Q (T.setTop (mkF m pc2 Ls (st)))) : W p e below s R n0 Q (T.setTop (mkF m pc Ls (.int x :: st))) := by
  obtain ⟨locs, X, eT, N, hs0, hcl, hsl, hx, hZ, rfl, hml, hown, hnm, hret, hlk⟩ := X
  have hq : ifCond.holds .lt x = decide (x.toInt < 0) := (if0 _ _).trans hI_lt
  by_cases z : x.toInt < 0
  · exact W.of (fun t k => XS.ifYes X.here hx rfl rfl hd rfl (hq.trans (decide_eq_true z)) hp.1 hp.2.1 k) (yes z)
  · have w := no (Int.not_lt.mp z)
    rw [← hp.2.2] at w
    exact W.of (fun t k => XS.ifNo X.here hx rfl hd rfl (hq.trans (decide_eq_false z)) k) w
theorem w_icmp_ge (X : Sn Z n0 bs mx own nm ret p l e R s m args below meth c T h cells slots) {x y : Int32} (hd : decode bs pc = .ok (.if_icmp .ge o, 3)) (hp : 0 ≤ (pc : Int) + o ∧ ((pc : Int) + o).toNat = pc1 ∧ pc + 3 = pc2)
    (yes : x.toInt ≥ y.toInt → W p e below s R n0 Q (T.setTop (mkF m pc1 Ls (st)))) (no : x.toInt < y.toInt → W p e below s R n0 Q (T.setTop (mkF m pc2 Ls (st)))) : W p e below s R n0 Q (T.setTop (mkF m pc Ls (.int y :: .int x :: st))) := by
  obtain ⟨locs, X, eT, N, hs0, hcl, hsl, hx, hZ, rfl, hml, hown, hnm, hret, hlk⟩ := X
  by_cases z : x.toInt ≥ y.toInt
  · exact W.of (fun t k => XS.icmpYes X.here hx rfl rfl hd rfl (hI_ge.trans (decide_eq_true z)) hp.1 hp.2.1 k) (yes z)
  · have w := no (Int.not_le.mp z)
    rw [← hp.2.2] at w
    exact W.of (fun t k => XS.icmpNo X.here hx rfl hd rfl (hI_ge.trans (decide_eq_false z)) k) w
theorem w_if_ge (X : Sn Z n0 bs mx own nm ret p l e R s m args below meth c T h cells slots) {x : Int32} (hd : decode bs pc = .ok (.ifCond .ge o, 3)) (hp : 0 ≤ (pc : Int) + o ∧ ((pc : Int) + o).toNat = pc1 ∧ pc + 3 = pc2)
    (yes : x.toInt ≥ 0 → W p e below s R n0 Q (T.setTop (mkF m pc1 Ls (st)))) (no : x.toInt < 0 → W p e below s R n0 Q (T.setTop (mkF m pc2 Ls (st)))) : W p e below s R n0 Q (T.setTop (mkF m pc Ls (.int x :: st))) := by
  obtain ⟨locs, X, eT, N, hs0, hcl, hsl, hx, hZ, rfl, hml, hown, hnm, hret, hlk⟩ := X
  have hq : ifCond.holds .ge x = decide (x.toInt ≥ 0) := (if0 _ _).trans hI_ge
  by_cases z : x.toInt ≥ 0
  · exact W.of (fun t k => XS.ifYes X.here hx rfl rfl hd rfl (hq.trans (decide_eq_true z)) hp.1 hp.2.1 k) (yes z)
  · have w := no (Int.not_le.mp z)
    rw [← hp.2.2] at w
    exact W.of (fun t k => XS.ifNo X.here hx rfl hd rfl (hq.trans (decide_eq_false z)) k) w
theorem w_icmp_gt (X : Sn Z n0 bs mx own nm ret p l e R s m args below meth c T h cells slots) {x y : Int32} (hd : decode bs pc = .ok (.if_icmp .gt o, 3)) (hp : 0 ≤ (pc : Int) + o ∧ ((pc : Int) + o).toNat = pc1 ∧ pc + 3 = pc2)
    (yes : x.toInt > y.toInt → W p e below s R n0 Q (T.setTop (mkF m pc1 Ls (st)))) (no : x.toInt ≤ y.toInt → W p e below s R n0 Q (T.setTop (mkF m pc2 Ls (st)))) : W p e below s R n0 Q (T.setTop (mkF m pc Ls (.int y :: .int x :: st))) := by
  obtain ⟨locs, X, eT, N, hs0, hcl, hsl, hx, hZ, rfl, hml, hown, hnm, hret, hlk⟩ := X
  by_cases z : x.toInt > y.toInt
  · exact W.of (fun t k => XS.icmpYes X.here hx rfl rfl hd rfl (hI_gt.trans (decide_eq_true z)) hp.1 hp.2.1 k) (yes z)
  · have w := no (Int.not_lt.mp z)
    rw [← hp.2.2] at w
    exact W.of (fun t k => XS.icmpNo X.here hx rfl hd rfl (hI_gt.trans (decide_eq_false z)) k) w
theorem w_if_gt (X : Sn Z n0 bs mx own nm ret p l e R s m args below meth c T h cells slots) {x : Int32} (hd : decode bs pc = .ok (.ifCond .gt o, 3)) (hp : 0 ≤ (pc : Int) + o ∧ ((pc : Int) + o).toNat = pc1 ∧ pc + 3 = pc2)
    (yes : x.toInt > 0 → W p e below s R n0 Q (T.setTop (mkF m pc1 Ls (st)))) (no : x.toInt ≤ 0 → W p e below s R n0 Q (T.setTop (mkF m pc2 Ls (st)))) : W p e below s R n0 Q (T.setTop (mkF m pc Ls (.int x :: st))) := by
  obtain ⟨locs, X, eT, N, hs0, hcl, hsl, hx, hZ, rfl, hml, hown, hnm, hret, hlk⟩ := X
  have hq : ifCond.holds .gt x = decide (x.toInt > 0) := (if0 _ _).trans hI_gt
  by_cases z : x.toInt > 0
  · exact W.of (fun t k => XS.ifYes X.here hx rfl rfl hd rfl (hq.trans (decide_eq_true z)) hp.1 hp.2.1 k) (yes z)
  · have w := no (Int.not_lt.mp z)
    rw [← hp.2.2] at w
    exact W.of (fun t k => XS.ifNo X.here hx rfl hd rfl (hq.trans (decide_eq_false z)) k) w
theorem w_icmp_le (X : Sn Z n0 bs mx own nm ret p l e R s m args below meth c T h cells slots) {x y : Int32} (hd : decode bs pc = .ok (.if_icmp .le o, 3)) (hp : 0 ≤ (pc : Int) + o ∧ ((pc : Int) + o).toNat = pc1 ∧ pc + 3 = pc2)
    (yes : x.toInt ≤ y.toInt → W p e below s R n0 Q (T.setTop (mkF m pc1 Ls (st)))) (no : x.toInt > y.toInt → W p e below s R n0 Q (T.setTop (mkF m pc2 Ls (st)))) : W p e below s R n0 Q (T.setTop (mkF m pc Ls (.int y :: .int x :: st))) := by
  obtain ⟨locs, X, eT, N, hs0, hcl, hsl, hx, hZ, rfl, hml, hown, hnm, hret, hlk⟩ := X
  by_cases z : x.toInt ≤ y.toInt
  · exact W.of (fun t k => XS.icmpYes X.here hx rfl rfl hd rfl (hI_le.trans (decide_eq_true z)) hp.1 hp.2.1 k) (yes z)
  · have w := no (Int.not_le.mp z)
    rw [← hp.2.2] at w
    exact W.of (fun t k => XS.icmpNo X.here hx rfl hd rfl (hI_le.trans (decide_eq_false z)) k) w
theorem w_if_le (X : Sn Z n0 bs mx own nm ret p l e R s m args below meth c T h cells slots) {x : Int32} (hd : decode bs pc = .ok (.ifCond .le o, 3)) (hp : 0 ≤ (pc : Int) + o ∧ ((pc : Int) + o).toNat = pc1 ∧ pc + 3 = pc2)
    (yes : x.toInt ≤ 0 → W p e below s R n0 Q (T.setTop (mkF m pc1 Ls (st)))) (no : x.toInt > 0 → W p e below s R n0 Q (T.setTop (mkF m pc2 Ls (st)))) : W p e below s R n0 Q (T.setTop (mkF m pc Ls (.int x :: st))) := by
  obtain ⟨locs, X, eT, N, hs0, hcl, hsl, hx, hZ, rfl, hml, hown, hnm, hret, hlk⟩ := X
  have hq : ifCond.holds .le x = decide (x.toInt ≤ 0) := (if0 _ _).trans hI_le
  by_cases z : x.toInt ≤ 0
  · exact W.of (fun t k => XS.ifYes X.here hx rfl rfl hd rfl (hq.trans (decide_eq_true z)) hp.1 hp.2.1 k) (yes z)
  · have w := no (Int.not_le.mp z)
    rw [← hp.2.2] at w
    exact W.of (fun t k => XS.ifNo X.here hx rfl hd rfl (hq.trans (decide_eq_false z)) k) w
theorem hL {x y : Int64} : (if x > y then (1 : Int32) else if x = y then 0 else -1).toInt = if x.toInt > y.toInt then 1 else if x = y then 0 else -1 := by
  by_cases q : x > y
  · have q' : x.toInt > y.toInt := Int64.lt_iff_toInt_lt.mp q
    rw [if_pos q, if_pos q']; rfl
  · have q' : ¬ x.toInt > y.toInt := fun z => q (Int64.lt_iff_toInt_lt.mpr z)
    rw [if_neg q, if_neg q']
    by_cases r : x = y
    · rw [if_pos r, if_pos r]; rfl
    · rw [if_neg r, if_neg r]; rfl
theorem hL2 {x y : Int64} : ((if x > y then (1 : Int32) else if x = y then 0 else -1).toInt = 1 ∧ x.toInt > y.toInt) ∨ ((if x > y then (1 : Int32) else if x = y then 0 else -1) = 0 ∧ x = y ∧ x.toInt = y.toInt) ∨ ((if x > y then (1 : Int32) else if x = y then 0 else -1).toInt = -1 ∧ x.toInt < y.toInt) := by
  by_cases q : x.toInt > y.toInt
  · left; rw [hL, if_pos q]; exact ⟨rfl, q⟩
  · by_cases r : x = y
    · right; left; subst r; exact ⟨by rw [if_neg (fun z => q (Int64.lt_iff_toInt_lt.mp z)), if_pos rfl], rfl, rfl⟩
    · right; right; rw [hL, if_neg q, if_neg r]; refine ⟨rfl, ?_⟩
      have : x.toInt ≠ y.toInt := fun z => r (Int64.toInt_inj.mp z)
      omega
theorem w_lcif_eq (X : Sn Z n0 bs mx own nm ret p l e R s m args below meth c T h cells slots) {x y : Int64} (hd : decode bs pc = .ok (.lcmp, 1)) (hd2 : decode bs pc' = .ok (.ifCond .eq o, 3)) (hp : pc + 1 = pc' ∧ 0 ≤ (pc' : Int) + o ∧ ((pc' : Int) + o).toNat = pc1 ∧ pc' + 3 = pc2)
    (yes : x = y → W p e below s R n0 Q (T.setTop (mkF m pc1 Ls (st)))) (no : x ≠ y → W p e below s R n0 Q (T.setTop (mkF m pc2 Ls (st)))) : W p e below s R n0 Q (T.setTop (mkF m pc Ls (.long y :: .long x :: st))) := by
  have X' := X
  obtain ⟨locs, X, eT, N, hs0, hcl, hsl, hx, hZ, rfl, hml, hown, hnm, hret, hlk⟩ := X
  refine W.of (fun t k => XS.lcmp X.here hx rfl hd rfl k) ?_
  have e1 : pc + 1 = pc' := hp.1
  show W p e below s R n0 Q (T.setTop (mkF m (pc + 1) Ls (.int (if x > y then 1 else if x = y then 0 else -1) :: st)))
  rw [e1]
  refine w_if_eq X' hd2 hp.2 (fun z => yes ?_) (fun z => no ?_)
  all_goals rcases hL2 (x := x) (y := y) with ⟨q1, q2⟩ | ⟨q1, rfl, -⟩ | ⟨q1, q2⟩
  all_goals first | rfl | exact Int.le_refl _ | (exfalso; rw [z] at q1; revert q1; decide) | (exfalso; exact z q1) | (exfalso; rw [q1] at z; revert z; decide) | (intro u; subst u; exact absurd q2 (Int.lt_irrefl _)) | omega
theorem w_lcif_ne (X : Sn Z n0 bs mx own nm ret p l e R s m args below meth c T h cells slots) {x y : Int64} (hd : decode bs pc = .ok (.lcmp, 1)) (hd2 : decode bs pc' = .ok (.ifCond .ne o, 3)) (hp : pc + 1 = pc' ∧ 0 ≤ (pc' : Int) + o ∧ ((pc' : Int) + o).toNat = pc1 ∧ pc' + 3 = pc2)
    (yes : x ≠ y → W p e below s R n0 Q (T.setTop (mkF m pc1 Ls (st)))) (no : x = y → W p e below s R n0 Q (T.setTop (mkF m pc2 Ls (st)))) : W p e below s R n0 Q (T.setTop (mkF m pc Ls (.long y :: .long x :: st))) := by
  have X' := X
  obtain ⟨locs, X, eT, N, hs0, hcl, hsl, hx, hZ, rfl, hml, hown, hnm, hret, hlk⟩ := X
  refine W.of (fun t k => XS.lcmp X.here hx rfl hd rfl k) ?_
  have e1 : pc + 1 = pc' := hp.1
  show W p e below s R n0 Q (T.setTop (mkF m (pc + 1) Ls (.int (if x > y then 1 else if x = y then 0 else -1) :: st)))
  rw [e1]
  refine w_if_ne X' hd2 hp.2 (fun z => yes ?_) (fun z => no ?_)
  all_goals rcases hL2 (x := x) (y := y) with ⟨q1, q2⟩ | ⟨q1, rfl, -⟩ | ⟨q1, q2⟩
  all_goals first | rfl | exact Int.le_refl _ | (exfalso; rw [z] at q1; revert q1; decide) | (exfalso; exact z q1) | (exfalso; rw [q1] at z; revert z; decide) | (intro u; subst u; exact absurd q2 (Int.lt_irrefl _)) | omega
theorem w_lcif_lt (X : Sn Z n0 bs mx own nm ret p l e R s m args below meth c T h cells slots) {x y : Int64} (hd : decode bs pc = .ok (.lcmp, 1)) (hd2 : decode bs pc' = .ok (.ifCond .lt o, 3)) (hp : pc + 1 = pc' ∧ 0 ≤ (pc' : Int) + o ∧ ((pc' : Int) + o).toNat = pc1 ∧ pc' + 3 = pc2)
    (yes : x.toInt < y.toInt → W p e below s R n0 Q (T.setTop (mkF m pc1 Ls (st)))) (no : x.toInt ≥ y.toInt → W p e below s R n0 Q (T.setTop (mkF m pc2 Ls (st)))) : W p e below s R n0 Q (T.setTop (mkF m pc Ls (.long y :: .long x :: st))) := by
  have X' := X
  obtain ⟨locs, X, eT, N, hs0, hcl, hsl, hx, hZ, rfl, hml, hown, hnm, hret, hlk⟩ := X
  refine W.of (fun t k => XS.lcmp X.here hx rfl hd rfl k) ?_
  have e1 : pc + 1 = pc' := hp.1
  show W p e below s R n0 Q (T.setTop (mkF m (pc + 1) Ls (.int (if x > y then 1 else if x = y then 0 else -1) :: st)))
  rw [e1]
  refine w_if_lt X' hd2 hp.2 (fun z => yes ?_) (fun z => no ?_)
  all_goals rcases hL2 (x := x) (y := y) with ⟨q1, q2⟩ | ⟨q1, rfl, -⟩ | ⟨q1, q2⟩
  all_goals first | rfl | exact Int.le_refl _ | (exfalso; rw [z] at q1; revert q1; decide) | (exfalso; exact z q1) | (exfalso; rw [q1] at z; revert z; decide) | (intro u; subst u; exact absurd q2 (Int.lt_irrefl _)) | omega
theorem w_lcif_ge (X : Sn Z n0 bs mx own nm ret p l e R s m args below meth c T h cells slots) {x y : Int64} (hd : decode bs pc = .ok (.lcmp, 1)) (hd2 : decode bs pc' = .ok (.ifCond .ge o, 3)) (hp : pc + 1 = pc' ∧ 0 ≤ (pc' : Int) + o ∧ ((pc' : Int) + o).toNat = pc1 ∧ pc' + 3 = pc2)
    (yes : x.toInt ≥ y.toInt → W p e below s R n0 Q (T.setTop (mkF m pc1 Ls (st)))) (no : x.toInt < y.toInt → W p e below s R n0 Q (T.setTop (mkF m pc2 Ls (st)))) : W p e below s R n0 Q (T.setTop (mkF m pc Ls (.long y :: .long x :: st))) := by
  have X' := X
  obtain ⟨locs, X, eT, N, hs0, hcl, hsl, hx, hZ, rfl, hml, hown, hnm, hret, hlk⟩ := X
  refine W.of (fun t k => XS.lcmp X.here hx rfl hd rfl k) ?_
  have e1 : pc + 1 = pc' := hp.1
  show W p e below s R n0 Q (T.setTop (mkF m (pc + 1) Ls (.int (if x > y then 1 else if x = y then 0 else -1) :: st)))
  rw [e1]
  refine w_if_ge X' hd2 hp.2 (fun z => yes ?_) (fun z => no ?_)
  all_goals rcases hL2 (x := x) (y := y) with ⟨q1, q2⟩ | ⟨q1, rfl, -⟩ | ⟨q1, q2⟩
  all_goals first | rfl | exact Int.le_refl _ | (exfalso; rw [z] at q1; revert q1; decide) | (exfalso; exact z q1) | (exfalso; rw [q1] at z; revert z; decide) | (intro u; subst u; exact absurd q2 (Int.lt_irrefl _)) | omega
theorem w_lcif_gt (X : Sn Z n0 bs mx own nm ret p l e R s m args below meth c T h cells slots) {x y : Int64} (hd : decode bs pc = .ok (.lcmp, 1)) (hd2 : decode bs pc' = .ok (.ifCond .gt o, 3)) (hp : pc + 1 = pc' ∧ 0 ≤ (pc' : Int) + o ∧ ((pc' : Int) + o).toNat = pc1 ∧ pc' + 3 = pc2)
    (yes : x.toInt > y.toInt → W p e below s R n0 Q (T.setTop (mkF m pc1 Ls (st)))) (no : x.toInt ≤ y.toInt → W p e below s R n0 Q (T.setTop (mkF m pc2 Ls (st)))) : W p e below s R n0 Q (T.setTop (mkF m pc Ls (.long y :: .long x :: st))) := by
  have X' := X
  obtain ⟨locs, X, eT, N, hs0, hcl, hsl, hx, hZ, rfl, hml, hown, hnm, hret, hlk⟩ := X
  refine W.of (fun t k => XS.lcmp X.here hx rfl hd rfl k) ?_
  have e1 : pc + 1 = pc' := hp.1
  show W p e below s R n0 Q (T.setTop (mkF m (pc + 1) Ls (.int (if x > y then 1 else if x = y then 0 else -1) :: st)))
  rw [e1]
  refine w_if_gt X' hd2 hp.2 (fun z => yes ?_) (fun z => no ?_)
  all_goals rcases hL2 (x := x) (y := y) with ⟨q1, q2⟩ | ⟨q1, rfl, -⟩ | ⟨q1, q2⟩
  all_goals first | rfl | exact Int.le_refl _ | (exfalso; rw [z] at q1; revert q1; decide) | (exfalso; exact z q1) | (exfalso; rw [q1] at z; revert z; decide) | (intro u; subst u; exact absurd q2 (Int.lt_irrefl _)) | omega
theorem w_lcif_le (X : Sn Z n0 bs mx own nm ret p l e R s m args below meth c T h cells slots) {x y : Int64} (hd : decode bs pc = .ok (.lcmp, 1)) (hd2 : decode bs pc' = .ok (.ifCond .le o, 3)) (hp : pc + 1 = pc' ∧ 0 ≤ (pc' : Int) + o ∧ ((pc' : Int) + o).toNat = pc1 ∧ pc' + 3 = pc2)
    (yes : x.toInt ≤ y.toInt → W p e below s R n0 Q (T.setTop (mkF m pc1 Ls (st)))) (no : x.toInt > y.toInt → W p e below s R n0 Q (T.setTop (mkF m pc2 Ls (st)))) : W p e below s R n0 Q (T.setTop (mkF m pc Ls (.long y :: .long x :: st))) := by
  have X' := X
  obtain ⟨locs, X, eT, N, hs0, hcl, hsl, hx, hZ, rfl, hml, hown, hnm, hret, hlk⟩ := X
  refine W.of (fun t k => XS.lcmp X.here hx rfl hd rfl k) ?_
  have e1 : pc + 1 = pc' := hp.1
  show W p e below s R n0 Q (T.setTop (mkF m (pc + 1) Ls (.int (if x > y then 1 else if x = y then 0 else -1) :: st)))
  rw [e1]
  refine w_if_le X' hd2 hp.2 (fun z => yes ?_) (fun z => no ?_)
  all_goals rcases hL2 (x := x) (y := y) with ⟨q1, q2⟩ | ⟨q1, rfl, -⟩ | ⟨q1, q2⟩
  all_goals first | rfl | exact Int.le_refl _ | (exfalso; rw [z] at q1; revert q1; decide) | (exfalso; exact z q1) | (exfalso; rw [q1] at z; revert z; decide) | (intro u; subst u; exact absurd q2 (Int.lt_irrefl _)) | omega
theorem w_ifnull_ref (X : Sn Z n0 bs mx own nm ret p l e R s m args below meth c T h cells slots) {b : Addr} (hd : decode bs pc = .ok (.ifnull o, 3)) (hp : pc + 3 = pc')
    (w : W p e below s R n0 Q (T.setTop (mkF m pc' Ls (st)))) : W p e below s R n0 Q (T.setTop (mkF m pc Ls (.ref b :: st))) := by
  obtain ⟨locs, X, eT, N, hs0, hcl, hsl, hx, hZ, rfl, hml, hown, hnm, hret, hlk⟩ := X
  subst hp
  exact W.of (fun t k => XS.ifnullNo X.here hx rfl hd rfl k) w
theorem w_ifnull_null (X : Sn Z n0 bs mx own nm ret p l e R s m args below meth c T h cells slots) (hd : decode bs pc = .ok (.ifnull o, 3)) (hp : 0 ≤ (pc : Int) + o ∧ ((pc : Int) + o).toNat = pc')
    (w : W p e below s R n0 Q (T.setTop (mkF m pc' Ls (st)))) : W p e below s R n0 Q (T.setTop (mkF m pc Ls (.null :: st))) := by
  obtain ⟨locs, X, eT, N, hs0, hcl, hsl, hx, hZ, rfl, hml, hown, hnm, hret, hlk⟩ := X
  exact W.of (fun t k => XS.ifnullYes X.here hx rfl rfl hd rfl hp.1 hp.2 k) w
theorem idxOf {j : Int32} {i n : Nat} {cl : Cell} (q : j.toInt = i) (hi : i < n) (hn : cl.slots.size = n) : ¬ (j < 0 ∨ cl.slots.size ≤ j.toNatClampNeg) ∧ j.toNatClampNeg = i := by
  have e : j.toNatClampNeg = i := by simp only [Int32.toNatClampNeg]; omega
  refine ⟨?_, e⟩
  rw [e, hn, Int32.lt_iff_toInt_lt]
  have : (0 : Int32).toInt = 0 := rfl
  omega
theorem w_iaload (X : Sn Z n0 bs mx own nm ret p l e R s m args below meth c T h cells slots) {a : Addr} {n i : Nat} {f : Nat → Value} {j : Int32} {v : Value} (F : AF Z h a .int n f) (hd : decode bs pc = .ok (.iaload, 1)) (hj : j.toInt = i) (hi : i < n) (hv : f i = v) (hp : pc + 1 = pc')
    (w : W p e below s R n0 Q (T.setTop (mkF m pc' Ls (v :: st)))) : W p e below s R n0 Q (T.setTop (mkF m pc Ls (.int j :: .ref a :: st))) := by
  obtain ⟨locs, X, eT, N, hs0, hcl, hsl, hx, hZ, rfl, hml, hown, hnm, hret, hlk⟩ := X
  obtain ⟨cl, A, r1, r2, r3⟩ := F
  obtain ⟨q1, q2⟩ := idxOf (cl := cl) hj hi r1
  subst hp hv eT
  exact W.of (fun t k => X.iaload hx (j := j) (v := f i) A.1 (State.isArrayOf_alike hZ.alike A.2.1) A.2.2 q1 (by rw [q2]; exact r3 i hi) (g := mkF m pc Ls (.int j :: .ref a :: st)) rfl rfl hd _ k) w
theorem w_laload (X : Sn Z n0 bs mx own nm ret p l e R s m args below meth c T h cells slots) {a : Addr} {n i : Nat} {f : Nat → Value} {j : Int32} {v : Value} (F : AF Z h a .long n f) (hd : decode bs pc = .ok (.laload, 1)) (hj : j.toInt = i) (hi : i < n) (hv : f i = v) (hp : pc + 1 = pc')
    (w : W p e below s R n0 Q (T.setTop (mkF m pc' Ls (v :: st)))) : W p e below s R n0 Q (T.setTop (mkF m pc Ls (.int j :: .ref a :: st))) := by
  obtain ⟨locs, X, eT, N, hs0, hcl, hsl, hx, hZ, rfl, hml, hown, hnm, hret, hlk⟩ := X
  obtain ⟨cl, A, r1, r2, r3⟩ := F
  obtain ⟨q1, q2⟩ := idxOf (cl := cl) hj hi r1
  subst hp hv eT
  exact W.of (fun t k => X.laload hx (j := j) (v := f i) A.1 (State.isArrayOf_alike hZ.alike A.2.1) A.2.2 q1 (by rw [q2]; exact r3 i hi) (g := mkF m pc Ls (.int j :: .ref a :: st)) rfl rfl hd _ k) w
theorem w_baloadB (X : Sn Z n0 bs mx own nm ret p l e R s m args below meth c T h cells slots) {a : Addr} {n i : Nat} {f : Nat → Value} {j : Int32} {v : Value} (F : AF Z h a .byte n f) (hd : decode bs pc = .ok (.baload, 1)) (hj : j.toInt = i) (hi : i < n) (hv : f i = v) (hp : pc + 1 = pc')
    (w : W p e below s R n0 Q (T.setTop (mkF m pc' Ls (v :: st)))) : W p e below s R n0 Q (T.setTop (mkF m pc Ls (.int j :: .ref a :: st))) := by
  obtain ⟨locs, X, eT, N, hs0, hcl, hsl, hx, hZ, rfl, hml, hown, hnm, hret, hlk⟩ := X
  obtain ⟨cl, A, r1, r2, r3⟩ := F
  obtain ⟨q1, q2⟩ := idxOf (cl := cl) hj hi r1
  subst hp hv eT
  exact W.of (fun t k => X.baloadBytes hx (j := j) (v := f i) A.1 (State.isArrayOf_alike hZ.alike A.2.1) A.2.2 q1 (by rw [q2]; exact r3 i hi) (g := mkF m pc Ls (.int j :: .ref a :: st)) rfl rfl hd _ k) w
theorem w_baloadZ (X : Sn Z n0 bs mx own nm ret p l e R s m args below meth c T h cells slots) {a : Addr} {n i : Nat} {f : Nat → Value} {j : Int32} {v : Value} (F : AF Z h a .boolean n f) (hd : decode bs pc = .ok (.baload, 1)) (hj : j.toInt = i) (hi : i < n) (hv : f i = v) (hp : pc + 1 = pc')
    (w : W p e below s R n0 Q (T.setTop (mkF m pc' Ls (v :: st)))) : W p e below s R n0 Q (T.setTop (mkF m pc Ls (.int j :: .ref a :: st))) := by
  obtain ⟨locs, X, eT, N, hs0, hcl, hsl, hx, hZ, rfl, hml, hown, hnm, hret, hlk⟩ := X
  obtain ⟨cl, A, r1, r2, r3⟩ := F
  obtain ⟨q1, q2⟩ := idxOf (cl := cl) hj hi r1
  subst hp hv eT
  exact W.of (fun t k => X.baloadBooleans hx (j := j) (v := f i) A.1 (State.isArrayOf_alike hZ.alike A.2.1) A.2.2 q1 (by rw [q2]; exact r3 i hi) (g := mkF m pc Ls (.int j :: .ref a :: st)) rfl rfl hd _ k) w
theorem w_iastore (X : Sn Z n0 bs mx own nm ret p l e R s m args below meth c T h cells slots) {a : Addr} {n i : Nat} {f : Nat → Value} {j : Int32} {x : Int32} (F : AF Z h a .int n f) (hd : decode bs pc = .ok (.iastore, 1)) (hj : j.toInt = i) (hi : i < n) (hp : pc + 1 = pc') (ha : n0 ≤ a)
    (w : ∀ T' h', Sn Z n0 bs mx own nm ret p l e R s m args below meth c T' h' cells slots → Wr h h' a i (.int x) → W p e below s R n0 Q (T'.setTop (mkF m pc' Ls (st)))) : W p e below s R n0 Q (T.setTop (mkF m pc Ls (.int x :: .int j :: .ref a :: st))) := by
  obtain ⟨locs, X, eT, N, hs0, hcl, hsl, hx, hZ, rfl, hml, hown, hnm, hret, hlk⟩ := X
  obtain ⟨cl, A, r1, r2, r3⟩ := F
  obtain ⟨q1, q2⟩ := idxOf (cl := cl) hj hi r1
  subst hp
  obtain ⟨T', h', X', e', W', st'⟩ := stI X hx hZ eT A (j := j) q1 (g := mkF m pc Ls (.int x :: .int j :: .ref a :: st)) rfl rfl hd
  rw [q2] at X' W'
  exact W.of st' (w T' h' ⟨_, X', e', Fr.snoc X' N ha, by rw [W'.size]; exact hs0, hcl, hsl, hx, hZ, rfl, hml, hown, hnm, hret, hlk⟩ W')
theorem w_lastore (X : Sn Z n0 bs mx own nm ret p l e R s m args below meth c T h cells slots) {a : Addr} {n i : Nat} {f : Nat → Value} {j : Int32} {x : Int64} (F : AF Z h a .long n f) (hd : decode bs pc = .ok (.lastore, 1)) (hj : j.toInt = i) (hi : i < n) (hp : pc + 1 = pc') (ha : n0 ≤ a)
    (w : ∀ T' h', Sn Z n0 bs mx own nm ret p l e R s m args below meth c T' h' cells slots → Wr h h' a i (.long x) → W p e below s R n0 Q (T'.setTop (mkF m pc' Ls (st)))) : W p e below s R n0 Q (T.setTop (mkF m pc Ls (.long x :: .int j :: .ref a :: st))) := by
  obtain ⟨locs, X, eT, N, hs0, hcl, hsl, hx, hZ, rfl, hml, hown, hnm, hret, hlk⟩ := X
  obtain ⟨cl, A, r1, r2, r3⟩ := F
  obtain ⟨q1, q2⟩ := idxOf (cl := cl) hj hi r1
  subst hp
  obtain ⟨T', h', X', e', W', st'⟩ := stJ X hx hZ eT A (j := j) q1 (g := mkF m pc Ls (.long x :: .int j :: .ref a :: st)) rfl rfl hd
  rw [q2] at X' W'
  exact W.of st' (w T' h' ⟨_, X', e', Fr.snoc X' N ha, by rw [W'.size]; exact hs0, hcl, hsl, hx, hZ, rfl, hml, hown, hnm, hret, hlk⟩ W')
theorem w_bastoreB (X : Sn Z n0 bs mx own nm ret p l e R s m args below meth c T h cells slots) {a : Addr} {n i : Nat} {f : Nat → Value} {j : Int32} {x : Int32} (F : AF Z h a .byte n f) (hd : decode bs pc = .ok (.bastore, 1)) (hj : j.toInt = i) (hi : i < n) (hp : pc + 1 = pc') (ha : n0 ≤ a)
    (w : ∀ T' h', Sn Z n0 bs mx own nm ret p l e R s m args below meth c T' h' cells slots → Wr h h' a i (.int (x.toInt8.toInt32)) → W p e below s R n0 Q (T'.setTop (mkF m pc' Ls (st)))) : W p e below s R n0 Q (T.setTop (mkF m pc Ls (.int x :: .int j :: .ref a :: st))) := by
  obtain ⟨locs, X, eT, N, hs0, hcl, hsl, hx, hZ, rfl, hml, hown, hnm, hret, hlk⟩ := X
  obtain ⟨cl, A, r1, r2, r3⟩ := F
  obtain ⟨q1, q2⟩ := idxOf (cl := cl) hj hi r1
  subst hp
  obtain ⟨T', h', X', e', W', st'⟩ := stB X hx hZ eT A (j := j) q1 (g := mkF m pc Ls (.int x :: .int j :: .ref a :: st)) rfl rfl hd
  rw [q2] at X' W'
  exact W.of st' (w T' h' ⟨_, X', e', Fr.snoc X' N ha, by rw [W'.size]; exact hs0, hcl, hsl, hx, hZ, rfl, hml, hown, hnm, hret, hlk⟩ W')
theorem w_bastoreZ (X : Sn Z n0 bs mx own nm ret p l e R s m args below meth c T h cells slots) {a : Addr} {n i : Nat} {f : Nat → Value} {j : Int32} {x : Int32} (F : AF Z h a .boolean n f) (hd : decode bs pc = .ok (.bastore, 1)) (hj : j.toInt = i) (hi : i < n) (hp : pc + 1 = pc') (ha : n0 ≤ a)
    (w : ∀ T' h', Sn Z n0 bs mx own nm ret p l e R s m args below meth c T' h' cells slots → Wr h h' a i (.int (x &&& 1)) → W p e below s R n0 Q (T'.setTop (mkF m pc' Ls (st)))) : W p e below s R n0 Q (T.setTop (mkF m pc Ls (.int x :: .int j :: .ref a :: st))) := by
  obtain ⟨locs, X, eT, N, hs0, hcl, hsl, hx, hZ, rfl, hml, hown, hnm, hret, hlk⟩ := X
  obtain ⟨cl, A, r1, r2, r3⟩ := F
  obtain ⟨q1, q2⟩ := idxOf (cl := cl) hj hi r1
  subst hp
  obtain ⟨T', h', X', e', W', st'⟩ := stZ X hx hZ eT A (j := j) q1 (g := mkF m pc Ls (.int x :: .int j :: .ref a :: st)) rfl rfl hd
  rw [q2] at X' W'
  exact W.of st' (w T' h' ⟨_, X', e', Fr.snoc X' N ha, by rw [W'.size]; exact hs0, hcl, hsl, hx, hZ, rfl, hml, hown, hnm, hret, hlk⟩ W')
theorem w_arraylength (X : Sn Z n0 bs mx own nm ret p l e R s m args below meth c T h cells slots) {a : Addr} {ty : FieldType} {n : Nat} {f : Nat → Value} {z : Int32} (F : AF Z h a ty n f) (hd : decode bs pc = .ok (.arraylength, 1)) (hz : z.toInt = n) (hp : pc + 1 = pc')
    (w : W p e below s R n0 Q (T.setTop (mkF m pc' Ls (.int z :: st)))) : W p e below s R n0 Q (T.setTop (mkF m pc Ls (.ref a :: st))) := by
  obtain ⟨locs, X, eT, N, hs0, hcl, hsl, hx, hZ, rfl, hml, hown, hnm, hret, hlk⟩ := X
  obtain ⟨cl, A, r1, r2, r3⟩ := F
  subst hp eT
  have e1 : cl.slots.size.toInt32 = z := Int32.toInt_inj.mp (by rw [len_toInt (by rw [r1]; exact r2), hz, r1])
  rw [← e1] at w
  exact W.of (fun t k => X.arraylength hx A.1 (State.isArrayOf_alike hZ.alike A.2.1) (g := mkF m pc Ls (.ref a :: st)) rfl rfl hd _ k) w
theorem w_newarray (X : Sn Z n0 bs mx own nm ret p l e R s m args below meth c T h cells slots) {aty : ArrayType} {z : Int32} {n cap : Nat} (hd : decode bs pc = .ok (.newarray aty, 2)) (w0 : (Cond.arrayClass (newarray.typeOf aty)).before a0 Z = true) (hz : z.toInt = n) (hcap : n ≤ cap) (hr : cap * 8 ≤ 536870912 ∧ cells + 1 ≤ R.cells ∧ slots + cap ≤ R.slots ∧ pc + 2 = pc')
    (w : ∀ T' h' b, Sn Z n0 bs mx own nm ret p l e R s m args below meth c T' h' (cells + 1) (slots + cap) → Ext h h' → b = h.size → n0 ≤ b → AF Z h' b (newarray.typeOf aty) n (fun _ => defaultValue (newarray.typeOf aty)) → W p e below s R n0 Q (T'.setTop (mkF m pc' Ls (.ref b :: st)))) : W p e below s R n0 Q (T.setTop (mkF m pc Ls (.int z :: st))) := by
  obtain ⟨locs, X, eT, N, hs0, hcl, hsl, hx, hZ, rfl, hml, hown, hnm, hret, hlk⟩ := X
  have hn : ¬ z < 0 := by rw [Int32.lt_iff_toInt_lt]; have : (0 : Int32).toInt = 0 := rfl; omega
  obtain ⟨T', h', cA, X', e', E', A', st'⟩ := newP X hx hZ w0 eT (g := mkF m pc Ls (.int z :: st)) rfl hd rfl hn (cap := cap) (by simp only [Int32.toNatClampNeg]; omega) hr.1 hr.2.1 hr.2.2.1
  obtain ⟨-, hr2, hr3, hp⟩ := hr
  subst hp
  exact W.of st' (w T' h' _ ⟨_, X', e', N, Nat.le_trans hs0 E'.1, hr2, hr3, hx, hZ, rfl, hml, hown, hnm, hret, hlk⟩ E' rfl hs0 (AF.new A' hz))
theorem w_ireturn (X : Sn Z n0 bs mx own nm ret p l e R s m args below meth c T h cells slots) {v : Int32} (hd : decode bs pc = .ok (.ireturn, 1)) (hq : ret = some .int) (q : Q (some (.int v)) h) : W p e below s R n0 Q (T.setTop (mkF m pc Ls (.int v :: st))) := by
  obtain ⟨locs, X, eT, N, hs0, hcl, hsl, hx, hZ, rfl, hml, hown, hnm, hret, hlk⟩ := X
  obtain ⟨fs, hr, hrun, hended, hW, hsame⟩ := X.leave (v := some (.int v)) (fun u => by rw [hret, hq] at u; cases u) hlk
  exact ⟨_, _, retOut X hx (hret.trans hq) rfl (Or.inl ⟨rfl, Or.inl rfl, _, rfl⟩) hd hr, hrun, hended, _, locs, rfl, ⟨N, by rw [← eT] at hs0; exact hs0, by rw [← eT] at q; exact q⟩, ⟨_, rfl⟩, hW, hsame.mono hcl hsl⟩
theorem w_lreturn (X : Sn Z n0 bs mx own nm ret p l e R s m args below meth c T h cells slots) {v : Int64} (hd : decode bs pc = .ok (.lreturn, 1)) (hq : ret = some .long) (q : Q (some (.long v)) h) : W p e below s R n0 Q (T.setTop (mkF m pc Ls (.long v :: st))) := by
  obtain ⟨locs, X, eT, N, hs0, hcl, hsl, hx, hZ, rfl, hml, hown, hnm, hret, hlk⟩ := X
  obtain ⟨fs, hr, hrun, hended, hW, hsame⟩ := X.leave (v := some (.long v)) (fun u => by rw [hret, hq] at u; cases u) hlk
  exact ⟨_, _, retOut X hx (hret.trans hq) rfl (Or.inr (Or.inl ⟨rfl, rfl, _, rfl⟩)) hd hr, hrun, hended, _, locs, rfl, ⟨N, by rw [← eT] at hs0; exact hs0, by rw [← eT] at q; exact q⟩, ⟨_, rfl⟩, hW, hsame.mono hcl hsl⟩
theorem w_areturn (X : Sn Z n0 bs mx own nm ret p l e R s m args below meth c T h cells slots) {v : Value} {t : FieldType} (hd : decode bs pc = .ok (.areturn, 1)) (hq : ret = some t) (ht : t.isReference = true) (hv : v.isRef = true) (hn : narrow t v = v) (q : Q (some v) h) : W p e below s R n0 Q (T.setTop (mkF m pc Ls (v :: st))) := by
  obtain ⟨locs, X, eT, N, hs0, hcl, hsl, hx, hZ, rfl, hml, hown, hnm, hret, hlk⟩ := X
  obtain ⟨fs, hr, hrun, hended, hW, hsame⟩ := X.leave (v := some v) (fun u => by rw [hret, hq] at u; cases u) hlk
  exact ⟨_, _, retOut X hx (hret.trans hq) hn (Or.inr (Or.inr (Or.inr (Or.inr ⟨rfl, ht, hv⟩)))) hd hr, hrun, hended, _, locs, rfl, ⟨N, by rw [← eT] at hs0; exact hs0, by rw [← eT] at q; exact q⟩, ⟨_, rfl⟩, hW, hsame.mono hcl hsl⟩
theorem w_nreturn (X : Sn Z n0 bs mx own nm ret p l e R s m args below meth c T h cells slots) {v : Int32} {t : FieldType} (hd : decode bs pc = .ok (.ireturn, 1)) (hq : ret = some t) (ht : t = .boolean ∨ t = .byte ∨ t = .char ∨ t = .short) (q : Q (some (.int (nar t v))) h) : W p e below s R n0 Q (T.setTop (mkF m pc Ls (.int v :: st))) := by
  obtain ⟨locs, X, eT, N, hs0, hcl, hsl, hx, hZ, rfl, hml, hown, hnm, hret, hlk⟩ := X
  obtain ⟨fs, hr, hrun, hended, hW, hsame⟩ := X.leave (v := some (.int (nar t v))) (fun u => by rw [hret, hq] at u; cases u) hlk
  exact ⟨_, _, retN X hx (hret.trans hq) ht hd hr, hrun, hended, _, locs, rfl, ⟨N, by rw [← eT] at hs0; exact hs0, by rw [← eT] at q; exact q⟩, ⟨_, rfl⟩, hW, hsame.mono hcl hsl⟩
theorem w_return (X : Sn Z n0 bs mx own nm ret p l e R s m args below meth c T h cells slots) (hd : decode bs pc = .ok (.return_, 1)) (hq : ret = none) (q : Q (none) h) : W p e below s R n0 Q (T.setTop (mkF m pc Ls ([]))) := by
  obtain ⟨locs, X, eT, N, hs0, hcl, hsl, hx, hZ, rfl, hml, hown, hnm, hret, hlk⟩ := X
  obtain ⟨fs, hr, hrun, hended, hW, hsame⟩ := X.leave (v := none) (fun _ => rfl) hlk
  exact ⟨_, _, X.returnOut hx (hret.trans hq) hd hr, hrun, hended, _, locs, rfl, ⟨N, by rw [← eT] at hs0; exact hs0, by rw [← eT] at q; exact q⟩, ⟨_, rfl⟩, hW, hsame.mono hcl hsl⟩
theorem w_callS (X : Sn Z n0 bs mx own nm ret p l e R s m args below meth c T h cells slots) {index : Nat} {y : MethodName} {b2 : ByteArray} {m2 : Nat} {r2 : Option FieldType} {R2 : Room} {argsL rest : List Value} {wd : Nat} {ps : List FieldType} {r3 : Option FieldType} {Q2 : Option Value → Heap → Prop} 
    (hd : decode bs pc = .ok (.invokestatic index, 3)) (w1 : (Cond.methodLink own index y).before a0 Z = true) (w2 : (Cond.static y).before a0 Z = true) (w3 : (Cond.initialized y.cls).before a0 Z = true) (w4 : (Cond.code y b2 m2 r2).before a0 Z = true)
    (hy : y.cls ≠ "java/lang/invoke/MethodHandle" ∧ y.cls ≠ "java/lang/invoke/VarHandle") (C : Ct l Z y b2 m2 r2 [] R2 argsL.toArray h n0 Q2) (hpd : parseMethodDescriptor y.desc = some ⟨ps, r3⟩) (hlen : argsL.length = ps.length)
    (hst : st = argsL.reverse ++ rest) (hsz : Ls.size = mx) (hwd : (rest.map fun v => v.category).sum ≤ wd) (hr : R2.frames + 1 ≤ R.frames ∧ wd + (m2 + 11) + R2.locals ≤ R.locals ∧ cells + R2.cells ≤ R.cells ∧ slots + R2.slots ≤ R.slots ∧ pc + 3 = pc')
    (w : ∀ v T' h', Sn Z n0 bs mx own nm ret p l e R s m args below meth c T' h' (cells + R2.cells) (slots + R2.slots) → Q2 v h' → W p e below s R n0 Q (T'.setTop (mkF m pc' Ls (v.toList ++ rest)))) : W p e below s R n0 Q (T.setTop (mkF m pc Ls (st))) := by
  obtain ⟨locs, X, eT, N, hs0, hcl, hsl, hx, hZ, rfl, hml, hown, hnm, hret, hlk⟩ := X
  obtain ⟨hr1, hr2, hr3, hr4, hp⟩ := hr
  obtain ⟨v, vm1, ⟨T', L', k', n'⟩, -, X', ⟨Lc, hQ, l', y', z'⟩, st'⟩ := Jvm.LawKit.callS X hx (y := y) hown (mvT hZ w1) (mvT hZ w2) (mvT hZ w3) (mvT hZ w4) hy (backOf (W := wd) (Q := Qc n0 Q2) C hZ w4 w3 hr1 hr2) (g := mkF m pc Ls st) rfl (hsz.trans hml.symm) (argsL := argsL) (rest := rest) (lenOf hpd hlen) hst (by show 2 * 0 + _ ≤ _; omega) hd (fun _ _ => ⟨rfl, eT, hr3, hr4⟩)
  dsimp only [Pt.U, Pt.locs, Pt.cells, Pt.slots] at X' l' y' z' st' hQ
  subst l' y' z' hp
  exact W.of st' (w v T' T'.heap ⟨_, X', rfl, Fr.app N hQ.1, hQ.2.1, hr3, hr4, hx, hZ, rfl, hml, hown, hnm, hret, hlk⟩ hQ.2.2)
theorem w_callC (X : Sn Z n0 bs mx own nm ret p l e R s m args below meth c T h cells slots) {index : Nat} {y : MethodName} {b2 : ByteArray} {m2 : Nat} {R2 : Room} {argsL rest : List Value} {wd : Nat} {ps : List FieldType} {r3 : Option FieldType} {Q2 : Option Value → Heap → Prop} {a : Addr} (hy1 : y.name = "<init>")
    (hd : decode bs pc = .ok (.invokespecial index, 3)) (w1 : (Cond.methodLink own index y).before a0 Z = true) (w2 : (Cond.instanceMethod y).before a0 Z = true) (w3 : (Cond.initialized y.cls).before a0 Z = true) (w4 : (Cond.code y b2 m2 none).before a0 Z = true)
    (hy : y.cls ≠ "java/lang/invoke/MethodHandle" ∧ y.cls ≠ "java/lang/invoke/VarHandle") (C : Ct l Z y b2 m2 none [] R2 (.ref a :: argsL).toArray h n0 Q2) (hpd : parseMethodDescriptor y.desc = some ⟨ps, r3⟩) (hlen : argsL.length = ps.length)
    (hst : st = argsL.reverse ++ .ref a :: rest) (hsz : Ls.size = mx) (hwd : (rest.map fun v => v.category).sum ≤ wd) (hr : R2.frames + 1 ≤ R.frames ∧ wd + (m2 + 11) + R2.locals ≤ R.locals ∧ cells + R2.cells ≤ R.cells ∧ slots + R2.slots ≤ R.slots ∧ pc + 3 = pc')
    (w : ∀ v T' h', Sn Z n0 bs mx own nm ret p l e R s m args below meth c T' h' (cells + R2.cells) (slots + R2.slots) → Q2 v h' → W p e below s R n0 Q (T'.setTop (mkF m pc' Ls (v.toList ++ rest)))) : W p e below s R n0 Q (T.setTop (mkF m pc Ls (st))) := by
  obtain ⟨locs, X, eT, N, hs0, hcl, hsl, hx, hZ, rfl, hml, hown, hnm, hret, hlk⟩ := X
  obtain ⟨hr1, hr2, hr3, hr4, hp⟩ := hr
  obtain ⟨v, vm1, ⟨T', L', k', n'⟩, -, X', ⟨Lc, hQ, l', y', z'⟩, st'⟩ := X.specialBack hx (y := y) hy1 hown (mvT hZ w1) (mvT hZ w2) (mvT hZ w4) hy (backOf (W := wd) (Q := Qc n0 Q2) C hZ w4 w3 hr1 hr2) (g := mkF m pc Ls st) rfl (hsz.trans hml.symm) (Steps.refl _) (a := a) (argsL := argsL) (rest := rest) (lenOf hpd hlen) hst (by show 2 * 0 + _ ≤ _; omega) hd (fun _ _ => ⟨rfl, eT, hr3, hr4⟩)
  dsimp only [Pt.U, Pt.locs, Pt.cells, Pt.slots] at X' l' y' z' st' hQ
  subst l' y' z' hp
  exact W.fwd st' (w v T' T'.heap ⟨_, X', rfl, Fr.app N hQ.1, hQ.2.1, hr3, hr4, hx, hZ, rfl, hml, hown, hnm, hret, hlk⟩ hQ.2.2)
theorem w_callV (X : Sn Z n0 bs mx own nm ret p l e R s m args below meth c T h cells slots) {index : Nat} {y : MethodName} {b2 : ByteArray} {m2 : Nat} {r2 : Option FieldType} {R2 : Room} {argsL rest : List Value} {wd : Nat} {ps : List FieldType} {r3 : Option FieldType} {Q2 : Option Value → Heap → Prop} {a : Addr} {K : String} (E : Exa Z h a K)
    (hd : decode bs pc = .ok (.invokevirtual index, 3)) (w1 : (Cond.methodLink own index y).before a0 Z = true) (wd0 : (Cond.declares y).before a0 Z = true) (ws0 : (Cond.selects K y y).before a0 Z = true) (w2 : (Cond.instanceMethod y).before a0 Z = true) (w3 : (Cond.initialized y.cls).before a0 Z = true) (w4 : (Cond.code y b2 m2 r2).before a0 Z = true)
    (hy : y.cls ≠ "java/lang/invoke/MethodHandle" ∧ y.cls ≠ "java/lang/invoke/VarHandle") (C : Ct l Z y b2 m2 r2 [] R2 (.ref a :: argsL).toArray h n0 Q2) (hpd : parseMethodDescriptor y.desc = some ⟨ps, r3⟩) (hlen : argsL.length = ps.length)
    (hst : st = argsL.reverse ++ .ref a :: rest) (hsz : Ls.size = mx) (hwd : (rest.map fun v => v.category).sum ≤ wd) (hr : R2.frames + 1 ≤ R.frames ∧ wd + (m2 + 11) + R2.locals ≤ R.locals ∧ cells + R2.cells ≤ R.cells ∧ slots + R2.slots ≤ R.slots ∧ pc + 3 = pc')
    (w : ∀ v T' h', Sn Z n0 bs mx own nm ret p l e R s m args below meth c T' h' (cells + R2.cells) (slots + R2.slots) → Q2 v h' → W p e below s R n0 Q (T'.setTop (mkF m pc' Ls (v.toList ++ rest)))) : W p e below s R n0 Q (T.setTop (mkF m pc Ls (st))) := by
  obtain ⟨locs, X, eT, N, hs0, hcl, hsl, hx, hZ, rfl, hml, hown, hnm, hret, hlk⟩ := X
  obtain ⟨hr1, hr2, hr3, hr4, hp⟩ := hr
  obtain ⟨cq, kq, qa, qb, qc⟩ := isOf hZ eT E
  obtain ⟨v, vm1, ⟨T', L', k', n'⟩, -, X', ⟨Lc, hQ, l', y', z'⟩, st'⟩ := X.virtualBack hx (y := y) (z := y) hown (mvT hZ w1) (mvT hZ wd0) (notFace_of_selects (args := #[]) (mvT hZ ws0)) (mvT hZ ws0) (mvT hZ w2) hy (backOf (W := wd) (Q := Qc n0 Q2) C hZ w4 w3 hr1 hr2) qa qc (g := mkF m pc Ls st) rfl (hsz.trans hml.symm) (Steps.refl _) (argsL := argsL) (rest := rest) (lenOf hpd hlen) hst (by show 2 * 0 + _ ≤ _; omega) hd (fun _ _ => ⟨rfl, eT, hr3, hr4⟩)
  dsimp only [Pt.U, Pt.locs, Pt.cells, Pt.slots] at X' l' y' z' st' hQ
  subst l' y' z' hp
  exact W.fwd st' (w v T' T'.heap ⟨_, X', rfl, Fr.app N hQ.1, hQ.2.1, hr3, hr4, hx, hZ, rfl, hml, hown, hnm, hret, hlk⟩ hQ.2.2)
theorem w_initO (X : Sn Z n0 bs mx own nm ret p l e R s m args below meth c T h cells slots) {idx : Nat} {a : Addr} {wd : Nat} (hd : decode bs pc = .ok (.invokespecial idx, 3)) (w1 : (Cond.methodLink own idx Lib.objectInit).before a0 Z = true) (w2 : (Cond.instanceMethod Lib.objectInit).before a0 Z = true) (w3 : (Cond.code Lib.objectInit ⟨#[0xb1]⟩ 1 none).before a0 Z = true)
    (hsz : Ls.size = mx) (hwd : (st.map fun v => v.category).sum ≤ wd) (hr : 1 ≤ R.frames ∧ wd + 12 ≤ R.locals ∧ pc + 3 = pc') (w : ∀ T', Sn Z n0 bs mx own nm ret p l e R s m args below meth c T' h cells slots → W p e below s R n0 Q (T'.setTop (mkF m pc' Ls (st)))) : W p e below s R n0 Q (T.setTop (mkF m pc Ls (.ref a :: st))) := by
  obtain ⟨locs, X, eT, N, hs0, hcl, hsl, hx, hZ, rfl, hml, hown, hnm, hret, hlk⟩ := X
  obtain ⟨hr1, hr2, hp⟩ := hr
  subst hp
  obtain ⟨T', X', e', st'⟩ := initO X hx hZ hown w1 w2 w3 eT (g := mkF m pc Ls (.ref a :: st)) rfl (hsz.trans hml.symm) rfl hd hr1 (W := wd) (by show 2 * 0 + _ ≤ _; omega) hr2
  exact W.of st' (w T' ⟨_, X', e', N, hs0, hcl, hsl, hx, hZ, rfl, hml, hown, hnm, hret, hlk⟩)
theorem w_getfield (X : Sn Z n0 bs mx own nm ret p l e R s m args below meth c T h cells slots) {R0 O n d : String} {index : Nat} {a : Addr} {v : Value} (F : Fld Z h a O n d v) (hd : decode bs pc = .ok (.getfield index, 3)) (w1 : (Cond.fieldLink own index R0 n d).before a0 Z = true) (via : Via Z R0 O n d) (hp : pc + 3 = pc')
    (w : ∀ T', Sn Z n0 bs mx own nm ret p l e R s m args below meth c T' h cells slots → W p e below s R n0 Q (T'.setTop (mkF m pc' Ls (v :: st)))) : W p e below s R n0 Q (T.setTop (mkF m pc Ls (.ref a :: st))) := by
  obtain ⟨locs, X, eT, N, hs0, hcl, hsl, hx, hZ, rfl, hml, hown, hnm, hret, hlk⟩ := X
  subst hp
  obtain ⟨T', X', e', st'⟩ := getF X hx hZ hown (host := "") (Or.inl w1) via eT F (g := mkF m pc Ls (.ref a :: st)) rfl rfl hd
  exact W.of st' (w T' ⟨_, X', e', N, hs0, hcl, hsl, hx, hZ, rfl, hml, hown, hnm, hret, hlk⟩)
theorem w_putfield (X : Sn Z n0 bs mx own nm ret p l e R s m args below meth c T h cells slots) {R0 O n d K : String} {index kk : Nat} {ty : FieldType} {a : Addr} {v v' old : Value} (F : Fld Z h a O n d old) (E : Exa Z h a K) (hd : decode bs pc = .ok (.putfield index, 3)) (w1 : (Cond.fieldLink own index R0 n d).before a0 Z = true) (via : Via Z R0 O n d)
    (L : (Cond.lays K O n d).before a0 Z = true ∨ ((Cond.laysFinal K O n d).before a0 Z = true ∧ own = O ∧ nm = "<init>")) (wi : (Cond.instantiable K kk).before a0 Z = true) (hty : parseFieldDescriptor d = some ty) (hn : narrow ty v = v') (hf : fits ty v' = true) (hp : pc + 3 = pc') (ha : n0 ≤ a)
    (w : ∀ T' h', Sn Z n0 bs mx own nm ret p l e R s m args below meth c T' h' cells slots → Wr h h' a (Jvm.RoadKit.slotOf Z O n d) v' → W p e below s R n0 Q (T'.setTop (mkF m pc' Ls (st)))) : W p e below s R n0 Q (T.setTop (mkF m pc Ls (v :: .ref a :: st))) := by
  obtain ⟨locs, X, eT, N, hs0, hcl, hsl, hx, hZ, rfl, hml, hown, hnm, hret, hlk⟩ := X
  subst hp
  obtain ⟨T', h', X', e', W', st'⟩ := putFN X hx hZ hown w1 via eT F E (L.imp id fun q => ⟨q.1, q.2.1, hnm.trans q.2.2⟩) wi hty hn hf (g := mkF m pc Ls (v :: .ref a :: st)) rfl rfl hd
  exact W.of st' (w T' h' ⟨_, X', e', Fr.snoc X' N ha, by rw [W'.size]; exact hs0, hcl, hsl, hx, hZ, rfl, hml, hown, hnm, hret, hlk⟩ W')
theorem w_new (X : Sn Z n0 bs mx own nm ret p l e R s m args below meth c T h cells slots) {K : String} {index kk : Nat} (hd : decode bs pc = .ok (.new index, 3)) (w1 : (Cond.classLink own index K).before a0 Z = true) (wi : (Cond.instantiable K kk).before a0 Z = true) (wz : (Cond.initialized K).before a0 Z = true) (hr : cells + 1 ≤ R.cells ∧ slots + kk ≤ R.slots ∧ pc + 3 = pc')
    (w : ∀ T' h' b, Sn Z n0 bs mx own nm ret p l e R s m args below meth c T' h' (cells + 1) (slots + kk) → Ext h h' → b = h.size → n0 ≤ b → Exa Z h' b K → (∀ {O nm d : String} {ty : FieldType}, Laid Z a0 K O nm d → parseFieldDescriptor d = some ty → Fld Z h' b O nm d (defaultValue ty)) → W p e below s R n0 Q (T'.setTop (mkF m pc' Ls (.ref b :: st)))) : W p e below s R n0 Q (T.setTop (mkF m pc Ls (st))) := by
  obtain ⟨locs, X, eT, N, hs0, hcl, hsl, hx, hZ, rfl, hml, hown, hnm, hret, hlk⟩ := X
  obtain ⟨hr1, hr2, hp⟩ := hr
  subst hp
  obtain ⟨T', h', X', e', E', A', D', -, st'⟩ := newO X hx hZ hown w1 wi wz eT (g := mkF m pc Ls st) rfl hd hr1 hr2
  exact W.of st' (w T' h' _ ⟨_, X', e', N, Nat.le_trans hs0 E'.1, hr1, hr2, hx, hZ, rfl, hml, hown, hnm, hret, hlk⟩ E' rfl hs0 A' D')
end
end Jvm.OwnW
namespace Jvm.Pilot.@@N@@
open Jvm Jvm.ClassFile Sem Op Lib Jvm.Free Jvm.Stand Jvm.LawKit Jvm.RoadKit Bundle Jvm.OwnW Jvm.Pilot.@@N@@.Jvm.D

theorem own_i {i : Nat} (h : i < 2 ^ 31) : (Int32.ofNat i).toInt = i := Int32.toInt_ofNat_small h
theorem own_succ (i : Nat) : Int32.ofNat i + 1 = Int32.ofNat (i + 1) := (Int32.ofNat_add i 1).symm
abbrev own_bit (bits : Int32) (j : Nat) : Prop := isr bits (Int32.ofNat j) &&& 1 ≠ 0
def own_bv (bits : Int32) (j : Nat) : Int32 := if own_bit bits j then 1 else 0
def own_mf (bits : Int32) (k : Nat) : Nat → Value := fun j => .int (if j < k then own_bv bits j else 0)
def own_cnt (bits : Int32) : Nat → Nat
  | 0 => 0
  | j + 1 => if own_bit bits j then own_cnt bits j + 1 else own_cnt bits j
def own_ef (bits : Int32) : Nat → Nat → Int32
  | 0 => fun _ => 0
  | j + 1 => if own_bit bits j then fun c => if c = own_cnt bits j then Int32.ofNat j else own_ef bits j c else own_ef bits j
theorem own_cle (bits : Int32) : ∀ j, own_cnt bits j ≤ j
  | 0 => Nat.le_refl _
  | j + 1 => by have := own_cle bits j; unfold own_cnt; split <;> omega
theorem own_cmono (bits : Int32) (i : Nat) : ∀ k, own_cnt bits i ≤ own_cnt bits (i + k)
  | 0 => Nat.le_refl _
  | k + 1 => by
    have := own_cmono bits i k
    have e : own_cnt bits (i + (k + 1)) = if own_bit bits (i + k) then own_cnt bits (i + k) + 1 else own_cnt bits (i + k) := rfl
    rw [e]; split <;> omega
theorem own_clt {bits : Int32} {i n : Nat} (h : i < n) (q : own_bit bits i) : own_cnt bits i < own_cnt bits n := by
  have e : own_cnt bits (i + 1) = own_cnt bits i + 1 := if_pos q
  have := own_cmono bits (i + 1) (n - (i + 1))
  rw [show i + 1 + (n - (i + 1)) = n by omega] at this; omega
theorem own_c1 {bits : Int32} {j : Nat} (q : own_bit bits j) : own_cnt bits (j + 1) = own_cnt bits j + 1 := if_pos q
theorem own_c0 {bits : Int32} {j : Nat} (q : ¬ own_bit bits j) : own_cnt bits (j + 1) = own_cnt bits j := if_neg q
theorem own_e1 {bits : Int32} {j : Nat} (q : own_bit bits j) : ∀ c, up (fun c => .int (own_ef bits j c)) (own_cnt bits j) (.int (Int32.ofNat j)) c = .int (own_ef bits (j + 1) c) := fun c => by
  have e : own_ef bits (j + 1) = fun c => if c = own_cnt bits j then Int32.ofNat j else own_ef bits j c := if_pos q
  rw [e]; unfold up; by_cases z : c = own_cnt bits j
  · rw [if_pos z]; simp only [z, if_true]
  · rw [if_neg z]; simp only [z, if_false]
theorem own_e0 {bits : Int32} {j : Nat} (q : ¬ own_bit bits j) : own_ef bits (j + 1) = own_ef bits j := if_neg q
theorem own_bv1 {bits : Int32} {j : Nat} (q : own_bit bits j) : own_bv bits j = 1 := if_pos q
theorem own_bv0 {bits : Int32} {j : Nat} (q : ¬ own_bit bits j) : own_bv bits j = 0 := if_neg q
theorem own_m1 (bits : Int32) (k : Nat) {w : Int32} (hw : w &&& 1 = own_bv bits k) : ∀ j, up (own_mf bits k) k (.int (w &&& 1)) j = own_mf bits (k + 1) j := fun j => by
  unfold up own_mf
  by_cases q : j = k
  · subst q; rw [if_pos rfl, if_pos (Nat.lt_succ_self _), hw]
  · rw [if_neg q]
    by_cases r : j < k
    · rw [if_pos r, if_pos (by omega)]
    · rw [if_neg r, if_neg (by omega)]
theorem own_m0 (bits : Int32) {k N : Nat} (h : N ≤ k) : ∀ j, j < N → own_mf bits k j = own_mf bits (k + 1) j := fun j hj => by
  unfold own_mf; rw [if_pos (by omega), if_pos (by omega)]
theorem own_n (x : Int32) : ∃ N : Nat, ((x &&& 2147483647) % 7).toInt = N ∧ N ≤ 6 := by
  have e1 : (x &&& 2147483647).toInt = x.toInt % 2 ^ 31 := Jvm.Kit.i32_mask x 2147483647 (k := 31) (by decide) (by decide)
  have e2 : ((x &&& 2147483647) % 7).toInt = (x &&& 2147483647).toInt % 7 := Jvm.Kit.i32_rem_nonneg (by omega)
  exact ⟨((x &&& 2147483647) % 7).toInt.toNat, by omega, by omega⟩
theorem own_min1 {j N : Nat} (h : j < N) : min (j + 1) N = j + 1 ∧ min j N = j := by omega
theorem own_min0 {j N : Nat} (h : N ≤ j) : min (j + 1) N = min j N := by omega
theorem own_bit0 (bits : Int32) : own_bit bits 0 ↔ bits &&& 1 ≠ 0 := by
  have : isr bits (Int32.ofNat 0) = bits := by
    apply Int32.toBitVec_inj.mp
    rw [isrB bits (by decide), BitVec.sshiftRight_zero]
  unfold own_bit; rw [this]

theorem os1_20 {z0 : Value} {z1 : Value} {z2 : Value} {z3 : Value} {z4 : Value} {s5 : Slot} {u : Int32} (h : One s5) : storeLocals #[.val z0, .val z1, .val z2, .val z3, .val z4, s5] 5 (.int u) = some #[.val z0, .val z1, .val z2, .val z3, .val z4, .val (.int u)] := by
  rcases h with rfl | ⟨w, rfl, hw⟩
  · rfl
  · cases w <;> first | rfl | (simp [Value.category] at hw)
theorem d1_0 : decode prog_67_method_3_code 0 = .ok (.iconst 0, 1) := by decide +kernel
theorem d1_1 : decode prog_67_method_3_code 1 = .ok (.istore_n 1, 1) := by decide +kernel
theorem d1_2 : decode prog_67_method_3_code 2 = .ok (.aload_n 0, 1) := by decide +kernel
theorem d1_3 : decode prog_67_method_3_code 3 = .ok (.astore_n 2, 1) := by decide +kernel
theorem d1_4 : decode prog_67_method_3_code 4 = .ok (.aload_n 2, 1) := by decide +kernel
theorem d1_5 : decode prog_67_method_3_code 5 = .ok (.arraylength, 1) := by decide +kernel
theorem d1_6 : decode prog_67_method_3_code 6 = .ok (.istore_n 3, 1) := by decide +kernel
theorem d1_7 : decode prog_67_method_3_code 7 = .ok (.iconst 0, 1) := by decide +kernel
theorem d1_8 : decode prog_67_method_3_code 8 = .ok (.istore 4, 2) := by decide +kernel
theorem d1_10 : decode prog_67_method_3_code 10 = .ok (.iload 4, 2) := by decide +kernel
theorem d1_12 : decode prog_67_method_3_code 12 = .ok (.iload_n 3, 1) := by decide +kernel
theorem d1_13 : decode prog_67_method_3_code 13 = .ok (.if_icmp .ge 28, 3) := by decide +kernel
theorem d1_16 : decode prog_67_method_3_code 16 = .ok (.aload_n 2, 1) := by decide +kernel
theorem d1_17 : decode prog_67_method_3_code 17 = .ok (.iload 4, 2) := by decide +kernel
theorem d1_19 : decode prog_67_method_3_code 19 = .ok (.baload, 1) := by decide +kernel
theorem d1_20 : decode prog_67_method_3_code 20 = .ok (.istore 5, 2) := by decide +kernel
theorem d1_22 : decode prog_67_method_3_code 22 = .ok (.iload_n 1, 1) := by decide +kernel
theorem d1_23 : decode prog_67_method_3_code 23 = .ok (.iload 5, 2) := by decide +kernel
theorem d1_25 : decode prog_67_method_3_code 25 = .ok (.ifCond .eq 7, 3) := by decide +kernel
theorem d1_28 : decode prog_67_method_3_code 28 = .ok (.iconst 1, 1) := by decide +kernel
theorem d1_29 : decode prog_67_method_3_code 29 = .ok (.goto 4, 3) := by decide +kernel
theorem d1_32 : decode prog_67_method_3_code 32 = .ok (.iconst 0, 1) := by decide +kernel
theorem d1_33 : decode prog_67_method_3_code 33 = .ok (.iadd, 1) := by decide +kernel
theorem d1_34 : decode prog_67_method_3_code 34 = .ok (.istore_n 1, 1) := by decide +kernel
theorem d1_35 : decode prog_67_method_3_code 35 = .ok (.iinc 4 1, 3) := by decide +kernel
theorem d1_38 : decode prog_67_method_3_code 38 = .ok (.goto (-28), 3) := by decide +kernel
theorem d1_41 : decode prog_67_method_3_code 41 = .ok (.iload_n 1, 1) := by decide +kernel
theorem d1_42 : decode prog_67_method_3_code 42 = .ok (.newarray .int, 2) := by decide +kernel
theorem d1_44 : decode prog_67_method_3_code 44 = .ok (.astore_n 2, 1) := by decide +kernel
theorem d1_45 : decode prog_67_method_3_code 45 = .ok (.iconst 0, 1) := by decide +kernel
theorem d1_46 : decode prog_67_method_3_code 46 = .ok (.istore_n 3, 1) := by decide +kernel
theorem d1_47 : decode prog_67_method_3_code 47 = .ok (.iconst 0, 1) := by decide +kernel
theorem d1_48 : decode prog_67_method_3_code 48 = .ok (.istore 4, 2) := by decide +kernel
theorem d1_50 : decode prog_67_method_3_code 50 = .ok (.iload 4, 2) := by decide +kernel
theorem d1_52 : decode prog_67_method_3_code 52 = .ok (.aload_n 0, 1) := by decide +kernel
theorem d1_53 : decode prog_67_method_3_code 53 = .ok (.arraylength, 1) := by decide +kernel
theorem d1_54 : decode prog_67_method_3_code 54 = .ok (.if_icmp .ge 24, 3) := by decide +kernel
theorem d1_57 : decode prog_67_method_3_code 57 = .ok (.aload_n 0, 1) := by decide +kernel
theorem d1_58 : decode prog_67_method_3_code 58 = .ok (.iload 4, 2) := by decide +kernel
theorem d1_60 : decode prog_67_method_3_code 60 = .ok (.baload, 1) := by decide +kernel
theorem d1_61 : decode prog_67_method_3_code 61 = .ok (.ifCond .eq 11, 3) := by decide +kernel
theorem d1_64 : decode prog_67_method_3_code 64 = .ok (.aload_n 2, 1) := by decide +kernel
theorem d1_65 : decode prog_67_method_3_code 65 = .ok (.iload_n 3, 1) := by decide +kernel
theorem d1_66 : decode prog_67_method_3_code 66 = .ok (.iinc 3 1, 3) := by decide +kernel
theorem d1_69 : decode prog_67_method_3_code 69 = .ok (.iload 4, 2) := by decide +kernel
theorem d1_71 : decode prog_67_method_3_code 71 = .ok (.iastore, 1) := by decide +kernel
theorem d1_72 : decode prog_67_method_3_code 72 = .ok (.iinc 4 1, 3) := by decide +kernel
theorem d1_75 : decode prog_67_method_3_code 75 = .ok (.goto (-25), 3) := by decide +kernel
theorem d1_78 : decode prog_67_method_3_code 78 = .ok (.aload_n 2, 1) := by decide +kernel
theorem d1_79 : decode prog_67_method_3_code 79 = .ok (.areturn, 1) := by decide +kernel
theorem pn_1 : plainName "com/example/tinderset/tinderset/model/SeedSet" = true := by first | (simp [plainName, overriddenIn]; done) | decide +kernel
theorem rm1_ef (m : MethodId) (a : Addr) : entryFrame m #[(.ref a)] 6 = mkF m 0 #[.val (.ref a), .unset, .unset, .unset, .unset, .unset] [] := by first | (simp [entryFrame, mkF, argsToLocals, Value.category]; done) | rfl
abbrev rm1_Q (Z : State) (a : Addr) (bits : Int32) (N : Nat) (h0 : Heap) (n0 : Nat) : Option Value → Heap → Prop := fun v h => ∃ b, v = some (.ref b) ∧ n0 ≤ b ∧ Keep h0 h [] ∧ AF Z h b .int (own_cnt bits N) (fun c => .int (own_ef bits N c))
set_option maxRecDepth 65536 in
set_option maxHeartbeats 40000000 in
theorem rm1 (l : Launch) (Z : State) (a0 : Array Value) (hw : ∀ d ∈ tables_1, d.before a0 Z = true) (ws : List Jvm.Cond) (a : Addr) (bits : Int32) (N : Nat) (h : Heap) (n0 : Nat) (hn0 : n0 ≤ h.size) (A1 : AF Z h a .boolean N (fun j => .int (own_bv bits j))) (hN : N ≤ 6) :
    Ct l Z (⟨"com/example/tinderset/tinderset/model/SeedSet", "positions", "([Z)[I"⟩ : MethodName) prog_67_method_3_code 6 (some (.array .int)) ws ({ frames := 0, cells := 1, slots := 6, locals := 0 } : Room) #[(.ref a)] h n0 (rm1_Q Z a bits N h n0) := by
  refine Ct.of (plainFor_of_name pn_1) hn0 (fun m => rm1_ef m a) ?_
  intro p e s m below meth c T0 X0
  replace X0 : Sn Z n0 prog_67_method_3_code 6 "com/example/tinderset/tinderset/model/SeedSet" "positions" (some (.array .int)) p l e ({ frames := 0, cells := 1, slots := 6, locals := 0 } : Room) s m #[(.ref a)] below meth c T0 h 0 0 := X0
  have K0 := Keep.refl h []
  have L41 : ∀ (T : State) (s5 : Slot), One s5 → Sn Z n0 prog_67_method_3_code 6 "com/example/tinderset/tinderset/model/SeedSet" "positions" (some (.array .int)) p l e ({ frames := 0, cells := 1, slots := 6, locals := 0 } : Room) s m #[(.ref a)] below meth c T h 0 0 → W p e below s ({ frames := 0, cells := 1, slots := 6, locals := 0 } : Room) n0 (rm1_Q Z a bits N h n0) (T.setTop (mkF m 41 #[.val (.ref a), .val (.int (Int32.ofNat (own_cnt bits N))), .val (.ref a), .val (.int (Int32.ofNat N)), .val (.int (Int32.ofNat N)), s5] [])) := by
    intro T s5 hs5 X
    refine w_iloadN (pc' := 42) X d1_41 rfl rfl ?_
    refine w_newarray (pc' := 44) (n := (own_cnt bits N)) (cap := 6) X d1_42 (hw _ (List.mem_of_getElem? (i := 2) rfl)) (own_i (by have := own_cle bits N; omega)) (by have := own_cle bits N; omega) (by decide) (fun T1 h1 b1 X1 E1 q1 g1 F1 => ?_)
    have ne2 : a ≠ b1 := ne_size q1 A1.lt
    have F3 := A1.ext E1
    have K4 := K0.ext E1
    have kp1 : h.size ≤ b1 := Nat.le_trans K0.1 (Nat.le_of_eq q1.symm)
    have L50 : ∀ (k i : Nat) (T : State) (hh : Heap), i + k = N → Sn Z n0 prog_67_method_3_code 6 "com/example/tinderset/tinderset/model/SeedSet" "positions" (some (.array .int)) p l e ({ frames := 0, cells := 1, slots := 6, locals := 0 } : Room) s m #[(.ref a)] below meth c T hh 1 6 → Keep h hh [] → AF Z hh a .boolean N (fun j => .int (own_bv bits j)) → AF Z hh b1 .int (own_cnt bits N) (fun c => .int (own_ef bits i c)) → W p e below s ({ frames := 0, cells := 1, slots := 6, locals := 0 } : Room) n0 (rm1_Q Z a bits N h n0) (T.setTop (mkF m 50 #[.val (.ref a), .val (.int (Int32.ofNat (own_cnt bits N))), .val (.ref b1), .val (.int (Int32.ofNat (own_cnt bits i))), .val (.int (Int32.ofNat i)), s5] [])) := by
      intro k
      induction k with
      | zero =>
        intro i T hh hi X Kh Fa Fb
        have ei : (Int32.ofNat i).toInt = i := own_i (by omega)
        have en : (Int32.ofNat N).toInt = N := own_i (by omega)
        refine w_iload (pc' := 52) X d1_50 rfl rfl ?_
        refine w_aloadN (pc' := 53) X d1_52 rfl rfl rfl ?_
        refine w_arraylength (pc' := 54) (z := (Int32.ofNat N)) X Fa d1_53 (own_i (by omega)) rfl ?_
        refine w_icmp_ge (pc1 := 78) (pc2 := 57) X d1_54 (by decide) (fun (hc54 : (Int32.ofNat i).toInt ≥ (Int32.ofNat N).toInt) => ?_) (fun (hc54 : (Int32.ofNat i).toInt < (Int32.ofNat N).toInt) => by omega)
        refine w_aloadN (pc' := 79) X d1_78 rfl rfl rfl ?_
        obtain rfl : i = N := by omega
        exact w_areturn (t := (.array .int)) X d1_79 rfl rfl rfl rfl (⟨b1, rfl, g1, Kh, Fb⟩)
      | succ k ih =>
        intro i T hh hi X Kh Fa Fb
        have ei : (Int32.ofNat i).toInt = i := own_i (by omega)
        have en : (Int32.ofNat N).toInt = N := own_i (by omega)
        refine w_iload (pc' := 52) X d1_50 rfl rfl ?_
        refine w_aloadN (pc' := 53) X d1_52 rfl rfl rfl ?_
        refine w_arraylength (pc' := 54) (z := (Int32.ofNat N)) X Fa d1_53 (own_i (by omega)) rfl ?_
        refine w_icmp_ge (pc1 := 78) (pc2 := 57) X d1_54 (by decide) (fun (hc54 : (Int32.ofNat i).toInt ≥ (Int32.ofNat N).toInt) => by omega) (fun (hc54 : (Int32.ofNat i).toInt < (Int32.ofNat N).toInt) => ?_)
        refine w_aloadN (pc' := 58) X d1_57 rfl rfl rfl ?_
        refine w_iload (pc' := 60) X d1_58 rfl rfl ?_
        refine w_baloadZ (pc' := 61) (i := i) (v := (.int (own_bv bits i))) X Fa d1_60 ei (by omega) rfl rfl ?_
        refine w_if_eq (pc1 := 72) (pc2 := 64) X d1_61 (by decide) (fun (hc61 : (own_bv bits i) = (0 : Int32)) => ?_) (fun (hc61 : (own_bv bits i) ≠ (0 : Int32)) => ?_)
        · refine w_iinc (pc' := 75) (z := (Int32.ofNat (i + 1))) (L' := #[.val (.ref a), .val (.int (Int32.ofNat (own_cnt bits N))), .val (.ref b1), .val (.int (Int32.ofNat (own_cnt bits i))), .val (.int (Int32.ofNat (i + 1))), s5]) X d1_72 rfl (own_succ i) rfl rfl ?_
          refine w_goto (pc' := 50) X d1_75 (by decide) ?_
          have hq : ¬ own_bit bits i := fun q => absurd ((own_bv1 q).symm.trans hc61) (by decide)
          have w := ih (i + 1) _ _ (by omega) X Kh Fa (by rw [own_e0 hq]; exact Fb)
          rw [own_c0 hq] at w
          exact w
        · have hq : own_bit bits i := Classical.byContradiction fun q => hc61 (own_bv0 q)
          refine w_aloadN (pc' := 65) X d1_64 rfl rfl rfl ?_
          refine w_iloadN (pc' := 66) X d1_65 rfl rfl ?_
          refine w_iinc (pc' := 69) (z := (Int32.ofNat (own_cnt bits i + 1))) (L' := #[.val (.ref a), .val (.int (Int32.ofNat (own_cnt bits N))), .val (.ref b1), .val (.int (Int32.ofNat (own_cnt bits i + 1))), .val (.int (Int32.ofNat i)), s5]) X d1_66 rfl (own_succ _) rfl rfl ?_
          refine w_iload (pc' := 71) X d1_69 rfl rfl ?_
          refine w_iastore (pc' := 72) (i := (own_cnt bits i)) X Fb d1_71 (own_i (by have := own_cle bits i; omega)) (own_clt (by omega) hq) rfl g1 (fun T5 h5 X5 W5 => ?_)
          have F6 := Fa.other W5 ne2
          have F5 := Fb.set W5
          have K5 := Kh.wr W5 (Or.inr kp1)
          refine w_iinc (pc' := 75) (z := (Int32.ofNat (i + 1))) (L' := #[.val (.ref a), .val (.int (Int32.ofNat (own_cnt bits N))), .val (.ref b1), .val (.int (Int32.ofNat (own_cnt bits i + 1))), .val (.int (Int32.ofNat (i + 1))), s5]) X5 d1_72 rfl (own_succ i) rfl rfl ?_
          refine w_goto (pc' := 50) X5 d1_75 (by decide) ?_
          refine ih (i + 1) _ _ (by omega) X5 K5 F6 (F5.congr fun c _ => own_e1 hq c) |> fun w => ?_
          rw [own_c1 hq] at w
          exact w
    refine w_astoreN (pc' := 45) (L' := #[.val (.ref a), .val (.int (Int32.ofNat (own_cnt bits N))), .val (.ref b1), .val (.int (Int32.ofNat N)), .val (.int (Int32.ofNat N)), s5]) X1 d1_44 rfl rfl rfl ?_
    refine w_iconst (pc' := 46) (z := (0 : Int32)) X1 d1_45 rfl rfl ?_
    refine w_istoreN (pc' := 47) (L' := #[.val (.ref a), .val (.int (Int32.ofNat (own_cnt bits N))), .val (.ref b1), .val (.int (0 : Int32)), .val (.int (Int32.ofNat N)), s5]) X1 d1_46 rfl rfl ?_
    refine w_iconst (pc' := 48) (z := (0 : Int32)) X1 d1_47 rfl rfl ?_
    refine w_istore (pc' := 50) (L' := #[.val (.ref a), .val (.int (Int32.ofNat (own_cnt bits N))), .val (.ref b1), .val (.int (0 : Int32)), .val (.int (0 : Int32)), s5]) X1 d1_48 rfl rfl ?_
    exact L50 N 0 _ _ (by omega) X1 K4 F3 (F1.congr fun c _ => rfl)
  have L10 : ∀ (k i : Nat) (T : State) (s5 : Slot), One s5 → i + k = N → Sn Z n0 prog_67_method_3_code 6 "com/example/tinderset/tinderset/model/SeedSet" "positions" (some (.array .int)) p l e ({ frames := 0, cells := 1, slots := 6, locals := 0 } : Room) s m #[(.ref a)] below meth c T h 0 0 → W p e below s ({ frames := 0, cells := 1, slots := 6, locals := 0 } : Room) n0 (rm1_Q Z a bits N h n0) (T.setTop (mkF m 10 #[.val (.ref a), .val (.int (Int32.ofNat (own_cnt bits i))), .val (.ref a), .val (.int (Int32.ofNat N)), .val (.int (Int32.ofNat i)), s5] [])) := by
    intro k
    induction k with
    | zero =>
      intro i T s5 hs5 hi X
      have ei : (Int32.ofNat i).toInt = i := own_i (by omega)
      have en : (Int32.ofNat N).toInt = N := own_i (by omega)
      refine w_iload (pc' := 12) X d1_10 rfl rfl ?_
      refine w_iloadN (pc' := 13) X d1_12 rfl rfl ?_
      refine w_icmp_ge (pc1 := 41) (pc2 := 16) X d1_13 (by decide) (fun (hc13 : (Int32.ofNat i).toInt ≥ (Int32.ofNat N).toInt) => ?_) (fun (hc13 : (Int32.ofNat i).toInt < (Int32.ofNat N).toInt) => by omega)
      obtain rfl : i = N := by omega
      exact L41 _ _ hs5 X
    | succ k ih =>
      intro i T s5 hs5 hi X
      have ei : (Int32.ofNat i).toInt = i := own_i (by omega)
      have en : (Int32.ofNat N).toInt = N := own_i (by omega)
      refine w_iload (pc' := 12) X d1_10 rfl rfl ?_
      refine w_iloadN (pc' := 13) X d1_12 rfl rfl ?_
      refine w_icmp_ge (pc1 := 41) (pc2 := 16) X d1_13 (by decide) (fun (hc13 : (Int32.ofNat i).toInt ≥ (Int32.ofNat N).toInt) => by omega) (fun (hc13 : (Int32.ofNat i).toInt < (Int32.ofNat N).toInt) => ?_)
      refine w_aloadN (pc' := 17) X d1_16 rfl rfl rfl ?_
      refine w_iload (pc' := 19) X d1_17 rfl rfl ?_
      refine w_baloadZ (pc' := 20) (i := i) (v := (.int (own_bv bits i))) X A1 d1_19 ei (by omega) rfl rfl ?_
      refine w_istore (pc' := 22) (L' := #[.val (.ref a), .val (.int (Int32.ofNat (own_cnt bits i))), .val (.ref a), .val (.int (Int32.ofNat N)), .val (.int (Int32.ofNat i)), .val (.int (own_bv bits i))]) X d1_20 (os1_20 hs5) rfl ?_
      refine w_iloadN (pc' := 23) X d1_22 rfl rfl ?_
      refine w_iload (pc' := 25) X d1_23 rfl rfl ?_
      refine w_if_eq (pc1 := 32) (pc2 := 28) X d1_25 (by decide) (fun (hc25 : (own_bv bits i) = (0 : Int32)) => ?_) (fun (hc25 : (own_bv bits i) ≠ (0 : Int32)) => ?_)
      · refine w_iconst (pc' := 33) (z := (0 : Int32)) X d1_32 rfl rfl ?_
        refine w_iadd (pc' := 34) X d1_33 rfl ?_
        have hq : ¬ own_bit bits i := fun q => absurd ((own_bv1 q).symm.trans hc25) (by decide)
        refine w_topI (x' := (Int32.ofNat (own_cnt bits (i + 1)))) (by rw [own_c0 hq]; exact Int32.add_zero _) ?_
        refine w_istoreN (pc' := 35) (L' := #[.val (.ref a), .val (.int (Int32.ofNat (own_cnt bits (i + 1)))), .val (.ref a), .val (.int (Int32.ofNat N)), .val (.int (Int32.ofNat i)), .val (.int (own_bv bits i))]) X d1_34 rfl rfl ?_
        refine w_iinc (pc' := 38) (z := (Int32.ofNat (i + 1))) (L' := #[.val (.ref a), .val (.int (Int32.ofNat (own_cnt bits (i + 1)))), .val (.ref a), .val (.int (Int32.ofNat N)), .val (.int (Int32.ofNat (i + 1))), .val (.int (own_bv bits i))]) X d1_35 rfl (own_succ i) rfl rfl ?_
        refine w_goto (pc' := 10) X d1_38 (by decide) ?_
        exact ih (i + 1) _ _ (One.val rfl) (by omega) X
      · refine w_iconst (pc' := 29) (z := (1 : Int32)) X d1_28 rfl rfl ?_
        refine w_goto (pc' := 33) X d1_29 (by decide) ?_
        refine w_iadd (pc' := 34) X d1_33 rfl ?_
        have hq : own_bit bits i := Classical.byContradiction fun q => hc25 (own_bv0 q)
        refine w_topI (x' := (Int32.ofNat (own_cnt bits (i + 1)))) (by rw [own_c1 hq]; exact own_succ _) ?_
        refine w_istoreN (pc' := 35) (L' := #[.val (.ref a), .val (.int (Int32.ofNat (own_cnt bits (i + 1)))), .val (.ref a), .val (.int (Int32.ofNat N)), .val (.int (Int32.ofNat i)), .val (.int (own_bv bits i))]) X d1_34 rfl rfl ?_
        refine w_iinc (pc' := 38) (z := (Int32.ofNat (i + 1))) (L' := #[.val (.ref a), .val (.int (Int32.ofNat (own_cnt bits (i + 1)))), .val (.ref a), .val (.int (Int32.ofNat N)), .val (.int (Int32.ofNat (i + 1))), .val (.int (own_bv bits i))]) X d1_35 rfl (own_succ i) rfl rfl ?_
        refine w_goto (pc' := 10) X d1_38 (by decide) ?_
        exact ih (i + 1) _ _ (One.val rfl) (by omega) X
  refine w_iconst (pc' := 1) (z := (0 : Int32)) X0 d1_0 rfl rfl ?_
  refine w_istoreN (pc' := 2) (L' := #[.val (.ref a), .val (.int (0 : Int32)), .unset, .unset, .unset, .unset]) X0 d1_1 rfl rfl ?_
  refine w_aloadN (pc' := 3) X0 d1_2 rfl rfl rfl ?_
  refine w_astoreN (pc' := 4) (L' := #[.val (.ref a), .val (.int (0 : Int32)), .val (.ref a), .unset, .unset, .unset]) X0 d1_3 rfl rfl rfl ?_
  refine w_aloadN (pc' := 5) X0 d1_4 rfl rfl rfl ?_
  refine w_arraylength (pc' := 6) (z := (Int32.ofNat N)) X0 A1 d1_5 (own_i (by omega)) rfl ?_
  refine w_istoreN (pc' := 7) (L' := #[.val (.ref a), .val (.int (0 : Int32)), .val (.ref a), .val (.int (Int32.ofNat N)), .unset, .unset]) X0 d1_6 rfl rfl ?_
  refine w_iconst (pc' := 8) (z := (0 : Int32)) X0 d1_7 rfl rfl ?_
  refine w_istore (pc' := 10) (L' := #[.val (.ref a), .val (.int (0 : Int32)), .val (.ref a), .val (.int (Int32.ofNat N)), .val (.int (0 : Int32)), .unset]) X0 d1_8 rfl rfl ?_
  exact L10 N 0 _ _ One.u (by omega) X0
theorem d2_0 : decode method_3_code 0 = .ok (.iload_n 3, 1) := by decide +kernel
theorem d2_1 : decode method_3_code 1 = .ok (.iload_n 2, 1) := by decide +kernel
theorem d2_2 : decode method_3_code 2 = .ok (.if_icmp .ge 12, 3) := by decide +kernel
theorem d2_5 : decode method_3_code 5 = .ok (.aload_n 0, 1) := by decide +kernel
theorem d2_6 : decode method_3_code 6 = .ok (.iload_n 3, 1) := by decide +kernel
theorem d2_7 : decode method_3_code 7 = .ok (.iaload, 1) := by decide +kernel
theorem d2_8 : decode method_3_code 8 = .ok (.aload_n 1, 1) := by decide +kernel
theorem d2_9 : decode method_3_code 9 = .ok (.iload_n 3, 1) := by decide +kernel
theorem d2_10 : decode method_3_code 10 = .ok (.iaload, 1) := by decide +kernel
theorem d2_11 : decode method_3_code 11 = .ok (.if_icmp .ne 7, 3) := by decide +kernel
theorem d2_14 : decode method_3_code 14 = .ok (.iconst 1, 1) := by decide +kernel
theorem d2_15 : decode method_3_code 15 = .ok (.goto 4, 3) := by decide +kernel
theorem d2_19 : decode method_3_code 19 = .ok (.ireturn, 1) := by decide +kernel
theorem pn_2 : plainName "com/example/tinderset/tinderset/model/SeedSetPositionsPinLaw" = true := by first | (simp [plainName, overriddenIn]; done) | decide +kernel
theorem rm2_ef (m : MethodId) (ar : Addr) (ae : Addr) (k1 : Int32) (i1 : Int32) : entryFrame m #[(.ref ar), (.ref ae), (.int k1), (.int i1)] 4 = mkF m 0 #[.val (.ref ar), .val (.ref ae), .val (.int k1), .val (.int i1)] [] := by first | (simp [entryFrame, mkF, argsToLocals, Value.category]; done) | rfl
abbrev rm2_Q (Z : State) (ar : Addr) (ae : Addr) (k1 : Int32) (i1 : Int32) (kk ii : Nat) (f : Nat → Int32) (h0 : Heap) (n0 : Nat) : Option Value → Heap → Prop := fun v h => v = some (.int 1) ∧ h0 = h
set_option maxRecDepth 65536 in
set_option maxHeartbeats 40000000 in
theorem rm2 (l : Launch) (Z : State) (a0 : Array Value) (hw : ∀ d ∈ tables_1, d.before a0 Z = true) (ws : List Jvm.Cond) (ar : Addr) (ae : Addr) (k1 : Int32) (i1 : Int32) (kk ii : Nat) (f : Nat → Int32) (h : Heap) (n0 : Nat) (hn0 : n0 ≤ h.size) (A1 : AF Z h ar .int kk (fun j => .int (f j))) (A2 : AF Z h ae .int 6 (fun j => .int (f j))) (hk : k1.toInt = kk) (hi : i1.toInt = ii) (h6 : ii < 6) :
    Ct l Z (⟨"com/example/tinderset/tinderset/model/SeedSetPositionsPinLaw", "at", "([I[III)Z"⟩ : MethodName) method_3_code 4 (some .boolean) ws ({ frames := 0, cells := 0, slots := 0, locals := 0 } : Room) #[(.ref ar), (.ref ae), (.int k1), (.int i1)] h n0 (rm2_Q Z ar ae k1 i1 kk ii f h n0) := by
  refine Ct.of (plainFor_of_name pn_2) hn0 (fun m => rm2_ef m ar ae k1 i1) ?_
  intro p e s m below meth c T0 X0
  replace X0 : Sn Z n0 method_3_code 4 "com/example/tinderset/tinderset/model/SeedSetPositionsPinLaw" "at" (some .boolean) p l e ({ frames := 0, cells := 0, slots := 0, locals := 0 } : Room) s m #[(.ref ar), (.ref ae), (.int k1), (.int i1)] below meth c T0 h 0 0 := X0
  refine w_iloadN (pc' := 1) X0 d2_0 rfl rfl ?_
  refine w_iloadN (pc' := 2) X0 d2_1 rfl rfl ?_
  refine w_icmp_ge (pc1 := 14) (pc2 := 5) X0 d2_2 (by decide) (fun (hc2 : i1.toInt ≥ k1.toInt) => ?_) (fun (hc2 : i1.toInt < k1.toInt) => ?_)
  · refine w_iconst (pc' := 15) (z := (1 : Int32)) X0 d2_14 rfl rfl ?_
    refine w_goto (pc' := 19) X0 d2_15 (by decide) ?_
    exact w_nreturn (t := .boolean) X0 d2_19 rfl (by simp) (⟨rfl, rfl⟩)
  · refine w_aloadN (pc' := 6) X0 d2_5 rfl rfl rfl ?_
    refine w_iloadN (pc' := 7) X0 d2_6 rfl rfl ?_
    refine w_iaload (pc' := 8) (i := ii) (v := (.int (f ii))) X0 A1 d2_7 hi (by omega) rfl rfl ?_
    refine w_aloadN (pc' := 9) X0 d2_8 rfl rfl rfl ?_
    refine w_iloadN (pc' := 10) X0 d2_9 rfl rfl ?_
    refine w_iaload (pc' := 11) (i := ii) (v := (.int (f ii))) X0 A2 d2_10 hi h6 rfl rfl ?_
    refine w_icmp_ne (pc1 := 18) (pc2 := 14) X0 d2_11 (by decide) (fun (hc11 : (f ii) ≠ (f ii)) => absurd rfl hc11) (fun (hc11 : (f ii) = (f ii)) => ?_)
    refine w_iconst (pc' := 15) (z := (1 : Int32)) X0 d2_14 rfl rfl ?_
    refine w_goto (pc' := 19) X0 d2_15 (by decide) ?_
    exact w_nreturn (t := .boolean) X0 d2_19 rfl (by simp) (⟨rfl, rfl⟩)
theorem d3_0 : decode method_4_code 0 = .ok (.iload_n 3, 1) := by decide +kernel
theorem d3_1 : decode method_4_code 1 = .ok (.iload_n 1, 1) := by decide +kernel
theorem d3_2 : decode method_4_code 2 = .ok (.if_icmp .ge 22, 3) := by decide +kernel
theorem d3_5 : decode method_4_code 5 = .ok (.aload_n 0, 1) := by decide +kernel
theorem d3_6 : decode method_4_code 6 = .ok (.iload_n 3, 1) := by decide +kernel
theorem d3_7 : decode method_4_code 7 = .ok (.baload, 1) := by decide +kernel
theorem d3_8 : decode method_4_code 8 = .ok (.iload_n 2, 1) := by decide +kernel
theorem d3_9 : decode method_4_code 9 = .ok (.iload_n 3, 1) := by decide +kernel
theorem d3_10 : decode method_4_code 10 = .ok (.ishr, 1) := by decide +kernel
theorem d3_11 : decode method_4_code 11 = .ok (.iconst 1, 1) := by decide +kernel
theorem d3_12 : decode method_4_code 12 = .ok (.iand, 1) := by decide +kernel
theorem d3_13 : decode method_4_code 13 = .ok (.ifCond .eq 7, 3) := by decide +kernel
theorem d3_16 : decode method_4_code 16 = .ok (.iconst 1, 1) := by decide +kernel
theorem d3_17 : decode method_4_code 17 = .ok (.goto 4, 3) := by decide +kernel
theorem d3_20 : decode method_4_code 20 = .ok (.iconst 0, 1) := by decide +kernel
theorem d3_21 : decode method_4_code 21 = .ok (.if_icmp .ne 7, 3) := by decide +kernel
theorem d3_24 : decode method_4_code 24 = .ok (.iconst 1, 1) := by decide +kernel
theorem d3_25 : decode method_4_code 25 = .ok (.goto 4, 3) := by decide +kernel
theorem d3_29 : decode method_4_code 29 = .ok (.ireturn, 1) := by decide +kernel
theorem rm3_ef (m : MethodId) (am : Addr) (n1 : Int32) (b1 : Int32) (i1 : Int32) : entryFrame m #[(.ref am), (.int n1), (.int b1), (.int i1)] 4 = mkF m 0 #[.val (.ref am), .val (.int n1), .val (.int b1), .val (.int i1)] [] := by first | (simp [entryFrame, mkF, argsToLocals, Value.category]; done) | rfl
abbrev rm3_Q (Z : State) (am : Addr) (n1 : Int32) (b1 : Int32) (i1 : Int32) (N ii : Nat) (h0 : Heap) (n0 : Nat) : Option Value → Heap → Prop := fun v h => v = some (.int 1) ∧ h0 = h
set_option maxRecDepth 65536 in
set_option maxHeartbeats 40000000 in
theorem rm3 (l : Launch) (Z : State) (a0 : Array Value) (hw : ∀ d ∈ tables_1, d.before a0 Z = true) (ws : List Jvm.Cond) (am : Addr) (n1 : Int32) (b1 : Int32) (i1 : Int32) (N ii : Nat) (h : Heap) (n0 : Nat) (hn0 : n0 ≤ h.size) (A1 : AF Z h am .boolean N (fun j => .int (own_bv b1 j))) (hn : n1.toInt = N) (hi : i1 = Int32.ofNat ii) (h6 : ii < 6) :
    Ct l Z (⟨"com/example/tinderset/tinderset/model/SeedSetPositionsPinLaw", "kept", "([ZIII)Z"⟩ : MethodName) method_4_code 4 (some .boolean) ws ({ frames := 0, cells := 0, slots := 0, locals := 0 } : Room) #[(.ref am), (.int n1), (.int b1), (.int i1)] h n0 (rm3_Q Z am n1 b1 i1 N ii h n0) := by
  refine Ct.of (plainFor_of_name pn_2) hn0 (fun m => rm3_ef m am n1 b1 i1) ?_
  intro p e s m below meth c T0 X0
  replace X0 : Sn Z n0 method_4_code 4 "com/example/tinderset/tinderset/model/SeedSetPositionsPinLaw" "kept" (some .boolean) p l e ({ frames := 0, cells := 0, slots := 0, locals := 0 } : Room) s m #[(.ref am), (.int n1), (.int b1), (.int i1)] below meth c T0 h 0 0 := X0
  subst hi
  have ei : (Int32.ofNat ii).toInt = ii := own_i (by omega)
  refine w_iloadN (pc' := 1) X0 d3_0 rfl rfl ?_
  refine w_iloadN (pc' := 2) X0 d3_1 rfl rfl ?_
  refine w_icmp_ge (pc1 := 24) (pc2 := 5) X0 d3_2 (by decide) (fun (hc2 : (Int32.ofNat ii).toInt ≥ n1.toInt) => ?_) (fun (hc2 : (Int32.ofNat ii).toInt < n1.toInt) => ?_)
  · refine w_iconst (pc' := 25) (z := (1 : Int32)) X0 d3_24 rfl rfl ?_
    refine w_goto (pc' := 29) X0 d3_25 (by decide) ?_
    exact w_nreturn (t := .boolean) X0 d3_29 rfl (by simp) (⟨rfl, rfl⟩)
  · refine w_aloadN (pc' := 6) X0 d3_5 rfl rfl rfl ?_
    refine w_iloadN (pc' := 7) X0 d3_6 rfl rfl ?_
    refine w_baloadZ (pc' := 8) (i := ii) (v := (.int (own_bv b1 ii))) X0 A1 d3_7 ei (by omega) rfl rfl ?_
    refine w_iloadN (pc' := 9) X0 d3_8 rfl rfl ?_
    refine w_iloadN (pc' := 10) X0 d3_9 rfl rfl ?_
    refine w_ishr (pc' := 11) X0 d3_10 rfl ?_
    refine w_iconst (pc' := 12) (z := (1 : Int32)) X0 d3_11 rfl rfl ?_
    refine w_iand (pc' := 13) X0 d3_12 rfl ?_
    refine w_if_eq (pc1 := 20) (pc2 := 16) X0 d3_13 (by decide) (fun (hc13 : ((isr b1 (Int32.ofNat ii)) &&& (1 : Int32)) = (0 : Int32)) => ?_) (fun (hc13 : ((isr b1 (Int32.ofNat ii)) &&& (1 : Int32)) ≠ (0 : Int32)) => ?_)
    · refine w_iconst (pc' := 21) (z := (0 : Int32)) X0 d3_20 rfl rfl ?_
      refine w_icmp_ne (pc1 := 28) (pc2 := 24) X0 d3_21 (by decide) (fun (hc21 : (own_bv b1 ii) ≠ (0 : Int32)) => absurd (own_bv0 fun q => q hc13) hc21) (fun (hc21 : (own_bv b1 ii) = (0 : Int32)) => ?_)
      refine w_iconst (pc' := 25) (z := (1 : Int32)) X0 d3_24 rfl rfl ?_
      refine w_goto (pc' := 29) X0 d3_25 (by decide) ?_
      exact w_nreturn (t := .boolean) X0 d3_29 rfl (by simp) (⟨rfl, rfl⟩)
    · refine w_iconst (pc' := 17) (z := (1 : Int32)) X0 d3_16 rfl rfl ?_
      refine w_goto (pc' := 21) X0 d3_17 (by decide) ?_
      refine w_icmp_ne (pc1 := 28) (pc2 := 24) X0 d3_21 (by decide) (fun (hc21 : (own_bv b1 ii) ≠ (1 : Int32)) => absurd (own_bv1 hc13) hc21) (fun (hc21 : (own_bv b1 ii) = (1 : Int32)) => ?_)
      refine w_iconst (pc' := 25) (z := (1 : Int32)) X0 d3_24 rfl rfl ?_
      refine w_goto (pc' := 29) X0 d3_25 (by decide) ?_
      exact w_nreturn (t := .boolean) X0 d3_29 rfl (by simp) (⟨rfl, rfl⟩)
theorem pd_84 : parseMethodDescriptor "([Z)[I" = some ⟨[(.array .boolean)], some (.array .int)⟩ := by decide +kernel
theorem pd_85 : parseMethodDescriptor "([I[III)Z" = some ⟨[(.array .int), (.array .int), .int, .int], some .boolean⟩ := by decide +kernel
theorem pd_86 : parseMethodDescriptor "([ZIII)Z" = some ⟨[(.array .boolean), .int, .int, .int], some .boolean⟩ := by decide +kernel
theorem rm0_ef (m : MethodId) (ln : Int32) (bits : Int32) : entryFrame m #[(.int ln), (.int bits)] 9 = mkF m 0 #[.val (.int ln), .val (.int bits), .unset, .unset, .unset, .unset, .unset, .unset, .unset] [] := by first | (simp [entryFrame, mkF, argsToLocals, Value.category]; done) | rfl
abbrev rm0_Q (Z : State) (ln : Int32) (bits : Int32) (h0 : Heap) (n0 : Nat) : Option Value → Heap → Prop := fun v h => v = some (.int 1)
set_option maxRecDepth 65536 in
set_option maxHeartbeats 40000000 in
theorem rm0 (l : Launch) (Z : State) (a0 : Array Value) (hw : ∀ d ∈ tables_1, d.before a0 Z = true) (ws : List Jvm.Cond) (ln : Int32) (bits : Int32) (h : Heap) (n0 : Nat) (hn0 : n0 ≤ h.size) :
    Ct l Z x code maxLocals ret ws room_1 #[(.int ln), (.int bits)] h n0 (rm0_Q Z ln bits h n0) := by
  refine Ct.of (plainFor_of_name pn_2) hn0 (fun m => rm0_ef m ln bits) ?_
  intro p e s m below meth c T0 X0
  replace X0 : Sn Z n0 code 9 "com/example/tinderset/tinderset/model/SeedSetPositionsPinLaw" "law" (some .boolean) p l e room_1 s m #[(.int ln), (.int bits)] below meth c T0 h 0 0 := X0
  refine w_iloadN (pc' := 1) X0 at_0 rfl rfl ?_
  refine w_ldc (pc' := 3) (z := (2147483647 : Int32)) X0 at_1 (hw _ (List.mem_of_getElem? (i := 0) rfl)) rfl ?_
  refine w_iand (pc' := 4) X0 at_3 rfl ?_
  refine w_bipush (pc' := 6) (z := (7 : Int32)) X0 at_4 rfl rfl ?_
  refine w_irem (pc' := 7) X0 at_6 (by decide) rfl ?_
  have hN := own_n ln
  obtain ⟨nv, env⟩ : ∃ z : Int32, z = ((ln &&& (2147483647 : Int32)) % (7 : Int32)) := ⟨_, rfl⟩
  refine w_topI env.symm ?_
  rw [← env] at hN
  obtain ⟨N, hN1, hN2⟩ := hN
  refine w_istoreN (pc' := 8) (L' := #[.val (.int ln), .val (.int bits), .val (.int nv), .unset, .unset, .unset, .unset, .unset, .unset]) X0 at_7 rfl rfl ?_
  refine w_iloadN (pc' := 9) X0 at_8 rfl rfl ?_
  refine w_newarray (pc' := 11) (n := N) (cap := 6) X0 at_9 (hw _ (List.mem_of_getElem? (i := 1) rfl)) hN1 hN2 (by decide) (fun T1 h1 b1 X1 E1 q1 g1 F1 => ?_)
  refine w_astoreN (pc' := 12) (L' := #[.val (.int ln), .val (.int bits), .val (.int nv), .val (.ref b1), .unset, .unset, .unset, .unset, .unset]) X1 at_11 rfl rfl rfl ?_
  have M6 : ∀ (T : State) (hh : Heap), Sn Z n0 code 9 "com/example/tinderset/tinderset/model/SeedSetPositionsPinLaw" "law" (some .boolean) p l e room_1 s m #[(.int ln), (.int bits)] below meth c T hh 1 6 → AF Z hh b1 .boolean N (own_mf bits 6) → W p e below s room_1 n0 (rm0_Q Z ln bits h n0) (T.setTop (mkF m 135 #[.val (.int ln), .val (.int bits), .val (.int nv), .val (.ref b1), .unset, .unset, .unset, .unset, .unset] [])) := by
    intro T hh X Fm
    refine w_bipush (pc' := 137) (z := (6 : Int32)) X at_135 rfl rfl ?_
    refine w_newarray (pc' := 139) (n := 6) (cap := 6) X at_137 (hw _ (List.mem_of_getElem? (i := 2) rfl)) rfl (by decide) (by decide) (fun T2 h2 b2 X2 E2 q2 g2 F2 => ?_)
    have ne3 : b1 ≠ b2 := ne_size q2 Fm.lt
    have F4 := Fm.ext E2
    refine w_astore (pc' := 141) (L' := #[.val (.int ln), .val (.int bits), .val (.int nv), .val (.ref b1), .val (.ref b2), .unset, .unset, .unset, .unset]) X2 at_139 rfl rfl rfl ?_
    refine w_iconst (pc' := 142) (z := (0 : Int32)) X2 at_141 rfl rfl ?_
    refine w_istore (pc' := 144) (L' := #[.val (.int ln), .val (.int bits), .val (.int nv), .val (.ref b1), .val (.ref b2), .val (.int (0 : Int32)), .unset, .unset, .unset]) X2 at_142 rfl rfl ?_
    have E6 : ∀ (T : State) (hh : Heap), Sn Z n0 code 9 "com/example/tinderset/tinderset/model/SeedSetPositionsPinLaw" "law" (some .boolean) p l e room_1 s m #[(.int ln), (.int bits)] below meth c T hh 2 12 → AF Z hh b1 .boolean N (own_mf bits 6) → AF Z hh b2 .int 6 (fun c => .int (own_ef bits N c)) → W p e below s room_1 n0 (rm0_Q Z ln bits h n0) (T.setTop (mkF m 273 #[.val (.int ln), .val (.int bits), .val (.int nv), .val (.ref b1), .val (.ref b2), .val (.int (Int32.ofNat (own_cnt bits N))), .unset, .unset, .unset] [])) := by
      intro T hh X Fm Fe
      refine w_aloadN (pc' := 274) X at_273 rfl rfl rfl ?_
      have Fv5 : AF Z hh b1 .boolean N (fun j => .int (own_bv bits j)) := Fm.congr (fun j hj => by unfold own_mf; rw [if_pos (by omega)])
      refine w_callS (pc' := 277) (wd := 0) (argsL := [(.ref b1)]) (rest := []) (Q2 := (rm1_Q Z b1 bits N hh n0)) X at_274 (hw _ (List.mem_of_getElem? (i := 3) rfl)) (hw _ (List.mem_of_getElem? (i := 4) rfl)) (hw _ (List.mem_of_getElem? (i := 5) rfl)) (hw _ (List.mem_of_getElem? (i := 6) rfl)) (by decide) (rm1 l Z a0 hw [] b1 bits N hh n0 X.size Fv5 hN2) pd_84 rfl rfl rfl (Nat.le_of_eq rfl) (by decide) (fun v5 T5 h5 X5 q5 => ?_)
      obtain ⟨rb, rfl, grb, Kc5, Frb⟩ := q5
      have F6 := Fm.keep Kc5 nin0
      have F7 := Fe.keep Kc5 nin0
      refine w_astore (pc' := 279) (L' := #[.val (.int ln), .val (.int bits), .val (.int nv), .val (.ref b1), .val (.ref b2), .val (.int (Int32.ofNat (own_cnt bits N))), .val (.ref rb), .unset, .unset]) X5 at_277 rfl rfl rfl ?_
      refine w_aload (pc' := 281) X5 at_279 rfl rfl rfl ?_
      refine w_arraylength (pc' := 282) (z := (Int32.ofNat (own_cnt bits N))) X5 Frb at_281 (own_i (by have := own_cle bits N; omega)) rfl ?_
      refine w_iload (pc' := 284) X5 at_282 rfl rfl ?_
      refine w_icmp_eq (pc1 := 289) (pc2 := 287) X5 at_284 (by decide) (fun (hc284 : (Int32.ofNat (own_cnt bits N)) = (Int32.ofNat (own_cnt bits N))) => ?_) (fun (hc284 : (Int32.ofNat (own_cnt bits N)) ≠ (Int32.ofNat (own_cnt bits N))) => absurd rfl hc284)
      refine w_aload (pc' := 291) X5 at_289 rfl rfl rfl ?_
      refine w_aload (pc' := 293) X5 at_291 rfl rfl rfl ?_
      refine w_iload (pc' := 295) X5 at_293 rfl rfl ?_
      refine w_iconst (pc' := 296) (z := (0 : Int32)) X5 at_295 rfl rfl ?_
      refine w_callS (pc' := 299) (wd := 0) (argsL := [(.ref rb), (.ref b2), (.int (Int32.ofNat (own_cnt bits N))), (.int (0 : Int32))]) (rest := []) (Q2 := (rm2_Q Z rb b2 (Int32.ofNat (own_cnt bits N)) (0 : Int32) (own_cnt bits N) 0 (own_ef bits N) h5 n0)) X5 at_296 (hw _ (List.mem_of_getElem? (i := 7) rfl)) (hw _ (List.mem_of_getElem? (i := 8) rfl)) (hw _ (List.mem_of_getElem? (i := 9) rfl)) (hw _ (List.mem_of_getElem? (i := 10) rfl)) (by decide) (rm2 l Z a0 hw [] rb b2 (Int32.ofNat (own_cnt bits N)) (0 : Int32) (own_cnt bits N) 0 (own_ef bits N) h5 n0 X5.size Frb F7 (own_i (by have := own_cle bits N; omega)) rfl (by decide)) pd_85 rfl rfl rfl (Nat.le_of_eq rfl) (by decide) (fun v8 T8 h8 X8 q8 => ?_)
      obtain ⟨rfl, rfl⟩ := q8
      refine w_if_eq (pc1 := 371) (pc2 := 302) X8 at_299 (by decide) (fun (hc299 : (1 : Int32) = (0 : Int32)) => absurd hc299 (by decide)) (fun (hc299 : (1 : Int32) ≠ (0 : Int32)) => ?_)
      refine w_aload (pc' := 304) X8 at_302 rfl rfl rfl ?_
      refine w_aload (pc' := 306) X8 at_304 rfl rfl rfl ?_
      refine w_iload (pc' := 308) X8 at_306 rfl rfl ?_
      refine w_iconst (pc' := 309) (z := (1 : Int32)) X8 at_308 rfl rfl ?_
      refine w_callS (pc' := 312) (wd := 0) (argsL := [(.ref rb), (.ref b2), (.int (Int32.ofNat (own_cnt bits N))), (.int (1 : Int32))]) (rest := []) (Q2 := (rm2_Q Z rb b2 (Int32.ofNat (own_cnt bits N)) (1 : Int32) (own_cnt bits N) 1 (own_ef bits N) h5 n0)) X8 at_309 (hw _ (List.mem_of_getElem? (i := 7) rfl)) (hw _ (List.mem_of_getElem? (i := 8) rfl)) (hw _ (List.mem_of_getElem? (i := 9) rfl)) (hw _ (List.mem_of_getElem? (i := 10) rfl)) (by decide) (rm2 l Z a0 hw [] rb b2 (Int32.ofNat (own_cnt bits N)) (1 : Int32) (own_cnt bits N) 1 (own_ef bits N) h5 n0 X8.size Frb F7 (own_i (by have := own_cle bits N; omega)) rfl (by decide)) pd_85 rfl rfl rfl (Nat.le_of_eq rfl) (by decide) (fun v9 T9 h9 X9 q9 => ?_)
      obtain ⟨rfl, rfl⟩ := q9
      refine w_if_eq (pc1 := 371) (pc2 := 315) X9 at_312 (by decide) (fun (hc312 : (1 : Int32) = (0 : Int32)) => absurd hc312 (by decide)) (fun (hc312 : (1 : Int32) ≠ (0 : Int32)) => ?_)
      refine w_aload (pc' := 317) X9 at_315 rfl rfl rfl ?_
      refine w_aload (pc' := 319) X9 at_317 rfl rfl rfl ?_
      refine w_iload (pc' := 321) X9 at_319 rfl rfl ?_
      refine w_iconst (pc' := 322) (z := (2 : Int32)) X9 at_321 rfl rfl ?_
      refine w_callS (pc' := 325) (wd := 0) (argsL := [(.ref rb), (.ref b2), (.int (Int32.ofNat (own_cnt bits N))), (.int (2 : Int32))]) (rest := []) (Q2 := (rm2_Q Z rb b2 (Int32.ofNat (own_cnt bits N)) (2 : Int32) (own_cnt bits N) 2 (own_ef bits N) h5 n0)) X9 at_322 (hw _ (List.mem_of_getElem? (i := 7) rfl)) (hw _ (List.mem_of_getElem? (i := 8) rfl)) (hw _ (List.mem_of_getElem? (i := 9) rfl)) (hw _ (List.mem_of_getElem? (i := 10) rfl)) (by decide) (rm2 l Z a0 hw [] rb b2 (Int32.ofNat (own_cnt bits N)) (2 : Int32) (own_cnt bits N) 2 (own_ef bits N) h5 n0 X9.size Frb F7 (own_i (by have := own_cle bits N; omega)) rfl (by decide)) pd_85 rfl rfl rfl (Nat.le_of_eq rfl) (by decide) (fun v10 T10 h10 X10 q10 => ?_)
      obtain ⟨rfl, rfl⟩ := q10
      refine w_if_eq (pc1 := 371) (pc2 := 328) X10 at_325 (by decide) (fun (hc325 : (1 : Int32) = (0 : Int32)) => absurd hc325 (by decide)) (fun (hc325 : (1 : Int32) ≠ (0 : Int32)) => ?_)
      refine w_aload (pc' := 330) X10 at_328 rfl rfl rfl ?_
      refine w_aload (pc' := 332) X10 at_330 rfl rfl rfl ?_
      refine w_iload (pc' := 334) X10 at_332 rfl rfl ?_
      refine w_iconst (pc' := 335) (z := (3 : Int32)) X10 at_334 rfl rfl ?_
      refine w_callS (pc' := 338) (wd := 0) (argsL := [(.ref rb), (.ref b2), (.int (Int32.ofNat (own_cnt bits N))), (.int (3 : Int32))]) (rest := []) (Q2 := (rm2_Q Z rb b2 (Int32.ofNat (own_cnt bits N)) (3 : Int32) (own_cnt bits N) 3 (own_ef bits N) h5 n0)) X10 at_335 (hw _ (List.mem_of_getElem? (i := 7) rfl)) (hw _ (List.mem_of_getElem? (i := 8) rfl)) (hw _ (List.mem_of_getElem? (i := 9) rfl)) (hw _ (List.mem_of_getElem? (i := 10) rfl)) (by decide) (rm2 l Z a0 hw [] rb b2 (Int32.ofNat (own_cnt bits N)) (3 : Int32) (own_cnt bits N) 3 (own_ef bits N) h5 n0 X10.size Frb F7 (own_i (by have := own_cle bits N; omega)) rfl (by decide)) pd_85 rfl rfl rfl (Nat.le_of_eq rfl) (by decide) (fun v11 T11 h11 X11 q11 => ?_)
      obtain ⟨rfl, rfl⟩ := q11
      refine w_if_eq (pc1 := 371) (pc2 := 341) X11 at_338 (by decide) (fun (hc338 : (1 : Int32) = (0 : Int32)) => absurd hc338 (by decide)) (fun (hc338 : (1 : Int32) ≠ (0 : Int32)) => ?_)
      refine w_aload (pc' := 343) X11 at_341 rfl rfl rfl ?_
      refine w_aload (pc' := 345) X11 at_343 rfl rfl rfl ?_
      refine w_iload (pc' := 347) X11 at_345 rfl rfl ?_
      refine w_iconst (pc' := 348) (z := (4 : Int32)) X11 at_347 rfl rfl ?_
      refine w_callS (pc' := 351) (wd := 0) (argsL := [(.ref rb), (.ref b2), (.int (Int32.ofNat (own_cnt bits N))), (.int (4 : Int32))]) (rest := []) (Q2 := (rm2_Q Z rb b2 (Int32.ofNat (own_cnt bits N)) (4 : Int32) (own_cnt bits N) 4 (own_ef bits N) h5 n0)) X11 at_348 (hw _ (List.mem_of_getElem? (i := 7) rfl)) (hw _ (List.mem_of_getElem? (i := 8) rfl)) (hw _ (List.mem_of_getElem? (i := 9) rfl)) (hw _ (List.mem_of_getElem? (i := 10) rfl)) (by decide) (rm2 l Z a0 hw [] rb b2 (Int32.ofNat (own_cnt bits N)) (4 : Int32) (own_cnt bits N) 4 (own_ef bits N) h5 n0 X11.size Frb F7 (own_i (by have := own_cle bits N; omega)) rfl (by decide)) pd_85 rfl rfl rfl (Nat.le_of_eq rfl) (by decide) (fun v12 T12 h12 X12 q12 => ?_)
      obtain ⟨rfl, rfl⟩ := q12
      refine w_if_eq (pc1 := 371) (pc2 := 354) X12 at_351 (by decide) (fun (hc351 : (1 : Int32) = (0 : Int32)) => absurd hc351 (by decide)) (fun (hc351 : (1 : Int32) ≠ (0 : Int32)) => ?_)
      refine w_aload (pc' := 356) X12 at_354 rfl rfl rfl ?_
      refine w_aload (pc' := 358) X12 at_356 rfl rfl rfl ?_
      refine w_iload (pc' := 360) X12 at_358 rfl rfl ?_
      refine w_iconst (pc' := 361) (z := (5 : Int32)) X12 at_360 rfl rfl ?_
      refine w_callS (pc' := 364) (wd := 0) (argsL := [(.ref rb), (.ref b2), (.int (Int32.ofNat (own_cnt bits N))), (.int (5 : Int32))]) (rest := []) (Q2 := (rm2_Q Z rb b2 (Int32.ofNat (own_cnt bits N)) (5 : Int32) (own_cnt bits N) 5 (own_ef bits N) h5 n0)) X12 at_361 (hw _ (List.mem_of_getElem? (i := 7) rfl)) (hw _ (List.mem_of_getElem? (i := 8) rfl)) (hw _ (List.mem_of_getElem? (i := 9) rfl)) (hw _ (List.mem_of_getElem? (i := 10) rfl)) (by decide) (rm2 l Z a0 hw [] rb b2 (Int32.ofNat (own_cnt bits N)) (5 : Int32) (own_cnt bits N) 5 (own_ef bits N) h5 n0 X12.size Frb F7 (own_i (by have := own_cle bits N; omega)) rfl (by decide)) pd_85 rfl rfl rfl (Nat.le_of_eq rfl) (by decide) (fun v13 T13 h13 X13 q13 => ?_)
      obtain ⟨rfl, rfl⟩ := q13
      refine w_if_eq (pc1 := 371) (pc2 := 367) X13 at_364 (by decide) (fun (hc364 : (1 : Int32) = (0 : Int32)) => absurd hc364 (by decide)) (fun (hc364 : (1 : Int32) ≠ (0 : Int32)) => ?_)
      refine w_iconst (pc' := 368) (z := (1 : Int32)) X13 at_367 rfl rfl ?_
      refine w_goto (pc' := 372) X13 at_368 (by decide) ?_
      refine w_istore (pc' := 374) (L' := #[.val (.int ln), .val (.int bits), .val (.int nv), .val (.ref b1), .val (.ref b2), .val (.int (Int32.ofNat (own_cnt bits N))), .val (.ref rb), .val (.int (1 : Int32)), .unset]) X13 at_372 rfl rfl ?_
      refine w_aloadN (pc' := 375) X13 at_374 rfl rfl rfl ?_
      refine w_iloadN (pc' := 376) X13 at_375 rfl rfl ?_
      refine w_iloadN (pc' := 377) X13 at_376 rfl rfl ?_
      refine w_iconst (pc' := 378) (z := (0 : Int32)) X13 at_377 rfl rfl ?_
      have Fk14 : AF Z h5 b1 .boolean N (fun j => .int (own_bv bits j)) := F6.congr (fun j hj => by unfold own_mf; rw [if_pos (by omega)])
      refine w_callS (pc' := 381) (wd := 0) (argsL := [(.ref b1), (.int nv), (.int bits), (.int (0 : Int32))]) (rest := []) (Q2 := (rm3_Q Z b1 nv bits (0 : Int32) N 0 h5 n0)) X13 at_378 (hw _ (List.mem_of_getElem? (i := 11) rfl)) (hw _ (List.mem_of_getElem? (i := 12) rfl)) (hw _ (List.mem_of_getElem? (i := 9) rfl)) (hw _ (List.mem_of_getElem? (i := 13) rfl)) (by decide) (rm3 l Z a0 hw [] b1 nv bits (0 : Int32) N 0 h5 n0 X13.size Fk14 hN1 rfl (by decide)) pd_86 rfl rfl rfl (Nat.le_of_eq rfl) (by decide) (fun v14 T14 h14 X14 q14 => ?_)
      obtain ⟨rfl, rfl⟩ := q14
      refine w_if_eq (pc1 := 438) (pc2 := 384) X14 at_381 (by decide) (fun (hc381 : (1 : Int32) = (0 : Int32)) => absurd hc381 (by decide)) (fun (hc381 : (1 : Int32) ≠ (0 : Int32)) => ?_)
      refine w_aloadN (pc' := 385) X14 at_384 rfl rfl rfl ?_
      refine w_iloadN (pc' := 386) X14 at_385 rfl rfl ?_
      refine w_iloadN (pc' := 387) X14 at_386 rfl rfl ?_
      refine w_iconst (pc' := 388) (z := (1 : Int32)) X14 at_387 rfl rfl ?_
      have Fk15 : AF Z h5 b1 .boolean N (fun j => .int (own_bv bits j)) := F6.congr (fun j hj => by unfold own_mf; rw [if_pos (by omega)])
      refine w_callS (pc' := 391) (wd := 0) (argsL := [(.ref b1), (.int nv), (.int bits), (.int (1 : Int32))]) (rest := []) (Q2 := (rm3_Q Z b1 nv bits (1 : Int32) N 1 h5 n0)) X14 at_388 (hw _ (List.mem_of_getElem? (i := 11) rfl)) (hw _ (List.mem_of_getElem? (i := 12) rfl)) (hw _ (List.mem_of_getElem? (i := 9) rfl)) (hw _ (List.mem_of_getElem? (i := 13) rfl)) (by decide) (rm3 l Z a0 hw [] b1 nv bits (1 : Int32) N 1 h5 n0 X14.size Fk15 hN1 rfl (by decide)) pd_86 rfl rfl rfl (Nat.le_of_eq rfl) (by decide) (fun v15 T15 h15 X15 q15 => ?_)
      obtain ⟨rfl, rfl⟩ := q15
      refine w_if_eq (pc1 := 438) (pc2 := 394) X15 at_391 (by decide) (fun (hc391 : (1 : Int32) = (0 : Int32)) => absurd hc391 (by decide)) (fun (hc391 : (1 : Int32) ≠ (0 : Int32)) => ?_)
      refine w_aloadN (pc' := 395) X15 at_394 rfl rfl rfl ?_
      refine w_iloadN (pc' := 396) X15 at_395 rfl rfl ?_
      refine w_iloadN (pc' := 397) X15 at_396 rfl rfl ?_
      refine w_iconst (pc' := 398) (z := (2 : Int32)) X15 at_397 rfl rfl ?_
      have Fk16 : AF Z h5 b1 .boolean N (fun j => .int (own_bv bits j)) := F6.congr (fun j hj => by unfold own_mf; rw [if_pos (by omega)])
      refine w_callS (pc' := 401) (wd := 0) (argsL := [(.ref b1), (.int nv), (.int bits), (.int (2 : Int32))]) (rest := []) (Q2 := (rm3_Q Z b1 nv bits (2 : Int32) N 2 h5 n0)) X15 at_398 (hw _ (List.mem_of_getElem? (i := 11) rfl)) (hw _ (List.mem_of_getElem? (i := 12) rfl)) (hw _ (List.mem_of_getElem? (i := 9) rfl)) (hw _ (List.mem_of_getElem? (i := 13) rfl)) (by decide) (rm3 l Z a0 hw [] b1 nv bits (2 : Int32) N 2 h5 n0 X15.size Fk16 hN1 rfl (by decide)) pd_86 rfl rfl rfl (Nat.le_of_eq rfl) (by decide) (fun v16 T16 h16 X16 q16 => ?_)
      obtain ⟨rfl, rfl⟩ := q16
      refine w_if_eq (pc1 := 438) (pc2 := 404) X16 at_401 (by decide) (fun (hc401 : (1 : Int32) = (0 : Int32)) => absurd hc401 (by decide)) (fun (hc401 : (1 : Int32) ≠ (0 : Int32)) => ?_)
      refine w_aloadN (pc' := 405) X16 at_404 rfl rfl rfl ?_
      refine w_iloadN (pc' := 406) X16 at_405 rfl rfl ?_
      refine w_iloadN (pc' := 407) X16 at_406 rfl rfl ?_
      refine w_iconst (pc' := 408) (z := (3 : Int32)) X16 at_407 rfl rfl ?_
      have Fk17 : AF Z h5 b1 .boolean N (fun j => .int (own_bv bits j)) := F6.congr (fun j hj => by unfold own_mf; rw [if_pos (by omega)])
      refine w_callS (pc' := 411) (wd := 0) (argsL := [(.ref b1), (.int nv), (.int bits), (.int (3 : Int32))]) (rest := []) (Q2 := (rm3_Q Z b1 nv bits (3 : Int32) N 3 h5 n0)) X16 at_408 (hw _ (List.mem_of_getElem? (i := 11) rfl)) (hw _ (List.mem_of_getElem? (i := 12) rfl)) (hw _ (List.mem_of_getElem? (i := 9) rfl)) (hw _ (List.mem_of_getElem? (i := 13) rfl)) (by decide) (rm3 l Z a0 hw [] b1 nv bits (3 : Int32) N 3 h5 n0 X16.size Fk17 hN1 rfl (by decide)) pd_86 rfl rfl rfl (Nat.le_of_eq rfl) (by decide) (fun v17 T17 h17 X17 q17 => ?_)
      obtain ⟨rfl, rfl⟩ := q17
      refine w_if_eq (pc1 := 438) (pc2 := 414) X17 at_411 (by decide) (fun (hc411 : (1 : Int32) = (0 : Int32)) => absurd hc411 (by decide)) (fun (hc411 : (1 : Int32) ≠ (0 : Int32)) => ?_)
      refine w_aloadN (pc' := 415) X17 at_414 rfl rfl rfl ?_
      refine w_iloadN (pc' := 416) X17 at_415 rfl rfl ?_
      refine w_iloadN (pc' := 417) X17 at_416 rfl rfl ?_
      refine w_iconst (pc' := 418) (z := (4 : Int32)) X17 at_417 rfl rfl ?_
      have Fk18 : AF Z h5 b1 .boolean N (fun j => .int (own_bv bits j)) := F6.congr (fun j hj => by unfold own_mf; rw [if_pos (by omega)])
      refine w_callS (pc' := 421) (wd := 0) (argsL := [(.ref b1), (.int nv), (.int bits), (.int (4 : Int32))]) (rest := []) (Q2 := (rm3_Q Z b1 nv bits (4 : Int32) N 4 h5 n0)) X17 at_418 (hw _ (List.mem_of_getElem? (i := 11) rfl)) (hw _ (List.mem_of_getElem? (i := 12) rfl)) (hw _ (List.mem_of_getElem? (i := 9) rfl)) (hw _ (List.mem_of_getElem? (i := 13) rfl)) (by decide) (rm3 l Z a0 hw [] b1 nv bits (4 : Int32) N 4 h5 n0 X17.size Fk18 hN1 rfl (by decide)) pd_86 rfl rfl rfl (Nat.le_of_eq rfl) (by decide) (fun v18 T18 h18 X18 q18 => ?_)
      obtain ⟨rfl, rfl⟩ := q18
      refine w_if_eq (pc1 := 438) (pc2 := 424) X18 at_421 (by decide) (fun (hc421 : (1 : Int32) = (0 : Int32)) => absurd hc421 (by decide)) (fun (hc421 : (1 : Int32) ≠ (0 : Int32)) => ?_)
      refine w_aloadN (pc' := 425) X18 at_424 rfl rfl rfl ?_
      refine w_iloadN (pc' := 426) X18 at_425 rfl rfl ?_
      refine w_iloadN (pc' := 427) X18 at_426 rfl rfl ?_
      refine w_iconst (pc' := 428) (z := (5 : Int32)) X18 at_427 rfl rfl ?_
      have Fk19 : AF Z h5 b1 .boolean N (fun j => .int (own_bv bits j)) := F6.congr (fun j hj => by unfold own_mf; rw [if_pos (by omega)])
      refine w_callS (pc' := 431) (wd := 0) (argsL := [(.ref b1), (.int nv), (.int bits), (.int (5 : Int32))]) (rest := []) (Q2 := (rm3_Q Z b1 nv bits (5 : Int32) N 5 h5 n0)) X18 at_428 (hw _ (List.mem_of_getElem? (i := 11) rfl)) (hw _ (List.mem_of_getElem? (i := 12) rfl)) (hw _ (List.mem_of_getElem? (i := 9) rfl)) (hw _ (List.mem_of_getElem? (i := 13) rfl)) (by decide) (rm3 l Z a0 hw [] b1 nv bits (5 : Int32) N 5 h5 n0 X18.size Fk19 hN1 rfl (by decide)) pd_86 rfl rfl rfl (Nat.le_of_eq rfl) (by decide) (fun v19 T19 h19 X19 q19 => ?_)
      obtain ⟨rfl, rfl⟩ := q19
      refine w_if_eq (pc1 := 438) (pc2 := 434) X19 at_431 (by decide) (fun (hc431 : (1 : Int32) = (0 : Int32)) => absurd hc431 (by decide)) (fun (hc431 : (1 : Int32) ≠ (0 : Int32)) => ?_)
      refine w_iconst (pc' := 435) (z := (1 : Int32)) X19 at_434 rfl rfl ?_
      refine w_goto (pc' := 439) X19 at_435 (by decide) ?_
      refine w_istore (pc' := 441) (L' := #[.val (.int ln), .val (.int bits), .val (.int nv), .val (.ref b1), .val (.ref b2), .val (.int (Int32.ofNat (own_cnt bits N))), .val (.ref rb), .val (.int (1 : Int32)), .val (.int (1 : Int32))]) X19 at_439 rfl rfl ?_
      refine w_iload (pc' := 443) X19 at_441 rfl rfl ?_
      refine w_if_eq (pc1 := 455) (pc2 := 446) X19 at_443 (by decide) (fun (hc443 : (1 : Int32) = (0 : Int32)) => absurd hc443 (by decide)) (fun (hc443 : (1 : Int32) ≠ (0 : Int32)) => ?_)
      refine w_iload (pc' := 448) X19 at_446 rfl rfl ?_
      refine w_if_eq (pc1 := 455) (pc2 := 451) X19 at_448 (by decide) (fun (hc448 : (1 : Int32) = (0 : Int32)) => absurd hc448 (by decide)) (fun (hc448 : (1 : Int32) ≠ (0 : Int32)) => ?_)
      refine w_iconst (pc' := 452) (z := (1 : Int32)) X19 at_451 rfl rfl ?_
      refine w_goto (pc' := 456) X19 at_452 (by decide) ?_
      exact w_nreturn (t := .boolean) X19 at_456 rfl (by simp) (rfl)
    have E5 : ∀ (T : State) (hh : Heap), Sn Z n0 code 9 "com/example/tinderset/tinderset/model/SeedSetPositionsPinLaw" "law" (some .boolean) p l e room_1 s m #[(.int ln), (.int bits)] below meth c T hh 2 12 → AF Z hh b1 .boolean N (own_mf bits 6) → AF Z hh b2 .int 6 (fun c => .int (own_ef bits (min 5 N) c)) → W p e below s room_1 n0 (rm0_Q Z ln bits h n0) (T.setTop (mkF m 251 #[.val (.int ln), .val (.int bits), .val (.int nv), .val (.ref b1), .val (.ref b2), .val (.int (Int32.ofNat (own_cnt bits (min 5 N)))), .unset, .unset, .unset] [])) := by
      intro T hh X Fm Fe
      refine w_iloadN (pc' := 252) X at_251 rfl rfl ?_
      refine w_iconst (pc' := 253) (z := (5 : Int32)) X at_252 rfl rfl ?_
      refine w_icmp_le (pc1 := 273) (pc2 := 256) X at_253 (by decide) (fun (hc253 : nv.toInt ≤ (5 : Int)) => ?_) (fun (hc253 : nv.toInt > (5 : Int)) => ?_)
      · have hm : min 5 N = N := by omega
        rw [hm] at Fe
        rw [hm]
        exact E6 _ _ X Fm Fe
      · obtain ⟨hm1, hm0⟩ := own_min1 (j := 5) (N := N) (by omega)
        rw [hm0] at Fe
        rw [hm0]
        refine w_iloadN (pc' := 257) X at_256 rfl rfl ?_
        refine w_iconst (pc' := 258) (z := (5 : Int32)) X at_257 rfl rfl ?_
        refine w_ishr (pc' := 259) X at_258 rfl ?_
        refine w_iconst (pc' := 260) (z := (1 : Int32)) X at_259 rfl rfl ?_
        refine w_iand (pc' := 261) X at_260 rfl ?_
        refine w_if_eq (pc1 := 273) (pc2 := 264) X at_261 (by decide) (fun (hc261 : ((isr bits (5 : Int32)) &&& (1 : Int32)) = (0 : Int32)) => ?_) (fun (hc261 : ((isr bits (5 : Int32)) &&& (1 : Int32)) ≠ (0 : Int32)) => ?_)
        · have hq : ¬ own_bit bits 5 := fun q => q hc261
          have hm1 : N = 5 + 1 := by omega
          have w := E6 _ _ X Fm (by rw [hm1, own_e0 hq]; exact Fe)
          rw [hm1, own_c0 hq] at w
          exact w
        · have hq : own_bit bits 5 := hc261
          refine w_aload (pc' := 266) X at_264 rfl rfl rfl ?_
          refine w_iload (pc' := 268) X at_266 rfl rfl ?_
          refine w_iconst (pc' := 269) (z := (5 : Int32)) X at_268 rfl rfl ?_
          refine w_iastore (pc' := 270) (i := (own_cnt bits 5)) X Fe at_269 (own_i (by have := own_cle bits 5; omega)) (by have := own_cle bits 5; omega) rfl g2 (fun T20 h20 X20 W20 => ?_)
          have F21 := Fm.other W20 ne3
          have F20 := Fe.set W20
          refine w_iinc (pc' := 273) (z := (Int32.ofNat (own_cnt bits (5 + 1)))) (L' := #[.val (.int ln), .val (.int bits), .val (.int nv), .val (.ref b1), .val (.ref b2), .val (.int (Int32.ofNat (own_cnt bits (5 + 1)))), .unset, .unset, .unset]) X20 at_270 rfl (by rw [own_c1 hq]; exact own_succ _) rfl rfl ?_
          have hm1 : N = 5 + 1 := by omega
          have w := E6 _ _ X20 F21 (by rw [hm1]; exact F20.congr fun c _ => own_e1 hq c)
          rw [hm1] at w
          exact w
    have E4 : ∀ (T : State) (hh : Heap), Sn Z n0 code 9 "com/example/tinderset/tinderset/model/SeedSetPositionsPinLaw" "law" (some .boolean) p l e room_1 s m #[(.int ln), (.int bits)] below meth c T hh 2 12 → AF Z hh b1 .boolean N (own_mf bits 6) → AF Z hh b2 .int 6 (fun c => .int (own_ef bits (min 4 N) c)) → W p e below s room_1 n0 (rm0_Q Z ln bits h n0) (T.setTop (mkF m 229 #[.val (.int ln), .val (.int bits), .val (.int nv), .val (.ref b1), .val (.ref b2), .val (.int (Int32.ofNat (own_cnt bits (min 4 N)))), .unset, .unset, .unset] [])) := by
      intro T hh X Fm Fe
      refine w_iloadN (pc' := 230) X at_229 rfl rfl ?_
      refine w_iconst (pc' := 231) (z := (4 : Int32)) X at_230 rfl rfl ?_
      refine w_icmp_le (pc1 := 251) (pc2 := 234) X at_231 (by decide) (fun (hc231 : nv.toInt ≤ (4 : Int)) => ?_) (fun (hc231 : nv.toInt > (4 : Int)) => ?_)
      · have hm : min (4 + 1) N = min 4 N := own_min0 (by omega)
        have w := E5 _ _ X Fm (by rw [hm]; exact Fe)
        rw [hm] at w
        exact w
      · obtain ⟨hm1, hm0⟩ := own_min1 (j := 4) (N := N) (by omega)
        rw [hm0] at Fe
        rw [hm0]
        refine w_iloadN (pc' := 235) X at_234 rfl rfl ?_
        refine w_iconst (pc' := 236) (z := (4 : Int32)) X at_235 rfl rfl ?_
        refine w_ishr (pc' := 237) X at_236 rfl ?_
        refine w_iconst (pc' := 238) (z := (1 : Int32)) X at_237 rfl rfl ?_
        refine w_iand (pc' := 239) X at_238 rfl ?_
        refine w_if_eq (pc1 := 251) (pc2 := 242) X at_239 (by decide) (fun (hc239 : ((isr bits (4 : Int32)) &&& (1 : Int32)) = (0 : Int32)) => ?_) (fun (hc239 : ((isr bits (4 : Int32)) &&& (1 : Int32)) ≠ (0 : Int32)) => ?_)
        · have hq : ¬ own_bit bits 4 := fun q => q hc239
          have w := E5 _ _ X Fm (by rw [hm1, own_e0 hq]; exact Fe)
          rw [hm1, own_c0 hq] at w
          exact w
        · have hq : own_bit bits 4 := hc239
          refine w_aload (pc' := 244) X at_242 rfl rfl rfl ?_
          refine w_iload (pc' := 246) X at_244 rfl rfl ?_
          refine w_iconst (pc' := 247) (z := (4 : Int32)) X at_246 rfl rfl ?_
          refine w_iastore (pc' := 248) (i := (own_cnt bits 4)) X Fe at_247 (own_i (by have := own_cle bits 4; omega)) (by have := own_cle bits 4; omega) rfl g2 (fun T22 h22 X22 W22 => ?_)
          have F23 := Fm.other W22 ne3
          have F22 := Fe.set W22
          refine w_iinc (pc' := 251) (z := (Int32.ofNat (own_cnt bits (4 + 1)))) (L' := #[.val (.int ln), .val (.int bits), .val (.int nv), .val (.ref b1), .val (.ref b2), .val (.int (Int32.ofNat (own_cnt bits (4 + 1)))), .unset, .unset, .unset]) X22 at_248 rfl (by rw [own_c1 hq]; exact own_succ _) rfl rfl ?_
          have w := E5 _ _ X22 F23 (by rw [hm1]; exact F22.congr fun c _ => own_e1 hq c)
          rw [hm1] at w
          exact w
    have E3 : ∀ (T : State) (hh : Heap), Sn Z n0 code 9 "com/example/tinderset/tinderset/model/SeedSetPositionsPinLaw" "law" (some .boolean) p l e room_1 s m #[(.int ln), (.int bits)] below meth c T hh 2 12 → AF Z hh b1 .boolean N (own_mf bits 6) → AF Z hh b2 .int 6 (fun c => .int (own_ef bits (min 3 N) c)) → W p e below s room_1 n0 (rm0_Q Z ln bits h n0) (T.setTop (mkF m 207 #[.val (.int ln), .val (.int bits), .val (.int nv), .val (.ref b1), .val (.ref b2), .val (.int (Int32.ofNat (own_cnt bits (min 3 N)))), .unset, .unset, .unset] [])) := by
      intro T hh X Fm Fe
      refine w_iloadN (pc' := 208) X at_207 rfl rfl ?_
      refine w_iconst (pc' := 209) (z := (3 : Int32)) X at_208 rfl rfl ?_
      refine w_icmp_le (pc1 := 229) (pc2 := 212) X at_209 (by decide) (fun (hc209 : nv.toInt ≤ (3 : Int)) => ?_) (fun (hc209 : nv.toInt > (3 : Int)) => ?_)
      · have hm : min (3 + 1) N = min 3 N := own_min0 (by omega)
        have w := E4 _ _ X Fm (by rw [hm]; exact Fe)
        rw [hm] at w
        exact w
      · obtain ⟨hm1, hm0⟩ := own_min1 (j := 3) (N := N) (by omega)
        rw [hm0] at Fe
        rw [hm0]
        refine w_iloadN (pc' := 213) X at_212 rfl rfl ?_
        refine w_iconst (pc' := 214) (z := (3 : Int32)) X at_213 rfl rfl ?_
        refine w_ishr (pc' := 215) X at_214 rfl ?_
        refine w_iconst (pc' := 216) (z := (1 : Int32)) X at_215 rfl rfl ?_
        refine w_iand (pc' := 217) X at_216 rfl ?_
        refine w_if_eq (pc1 := 229) (pc2 := 220) X at_217 (by decide) (fun (hc217 : ((isr bits (3 : Int32)) &&& (1 : Int32)) = (0 : Int32)) => ?_) (fun (hc217 : ((isr bits (3 : Int32)) &&& (1 : Int32)) ≠ (0 : Int32)) => ?_)
        · have hq : ¬ own_bit bits 3 := fun q => q hc217
          have w := E4 _ _ X Fm (by rw [hm1, own_e0 hq]; exact Fe)
          rw [hm1, own_c0 hq] at w
          exact w
        · have hq : own_bit bits 3 := hc217
          refine w_aload (pc' := 222) X at_220 rfl rfl rfl ?_
          refine w_iload (pc' := 224) X at_222 rfl rfl ?_
          refine w_iconst (pc' := 225) (z := (3 : Int32)) X at_224 rfl rfl ?_
          refine w_iastore (pc' := 226) (i := (own_cnt bits 3)) X Fe at_225 (own_i (by have := own_cle bits 3; omega)) (by have := own_cle bits 3; omega) rfl g2 (fun T24 h24 X24 W24 => ?_)
          have F25 := Fm.other W24 ne3
          have F24 := Fe.set W24
          refine w_iinc (pc' := 229) (z := (Int32.ofNat (own_cnt bits (3 + 1)))) (L' := #[.val (.int ln), .val (.int bits), .val (.int nv), .val (.ref b1), .val (.ref b2), .val (.int (Int32.ofNat (own_cnt bits (3 + 1)))), .unset, .unset, .unset]) X24 at_226 rfl (by rw [own_c1 hq]; exact own_succ _) rfl rfl ?_
          have w := E4 _ _ X24 F25 (by rw [hm1]; exact F24.congr fun c _ => own_e1 hq c)
          rw [hm1] at w
          exact w
    have E2 : ∀ (T : State) (hh : Heap), Sn Z n0 code 9 "com/example/tinderset/tinderset/model/SeedSetPositionsPinLaw" "law" (some .boolean) p l e room_1 s m #[(.int ln), (.int bits)] below meth c T hh 2 12 → AF Z hh b1 .boolean N (own_mf bits 6) → AF Z hh b2 .int 6 (fun c => .int (own_ef bits (min 2 N) c)) → W p e below s room_1 n0 (rm0_Q Z ln bits h n0) (T.setTop (mkF m 185 #[.val (.int ln), .val (.int bits), .val (.int nv), .val (.ref b1), .val (.ref b2), .val (.int (Int32.ofNat (own_cnt bits (min 2 N)))), .unset, .unset, .unset] [])) := by
      intro T hh X Fm Fe
      refine w_iloadN (pc' := 186) X at_185 rfl rfl ?_
      refine w_iconst (pc' := 187) (z := (2 : Int32)) X at_186 rfl rfl ?_
      refine w_icmp_le (pc1 := 207) (pc2 := 190) X at_187 (by decide) (fun (hc187 : nv.toInt ≤ (2 : Int)) => ?_) (fun (hc187 : nv.toInt > (2 : Int)) => ?_)
      · have hm : min (2 + 1) N = min 2 N := own_min0 (by omega)
        have w := E3 _ _ X Fm (by rw [hm]; exact Fe)
        rw [hm] at w
        exact w
      · obtain ⟨hm1, hm0⟩ := own_min1 (j := 2) (N := N) (by omega)
        rw [hm0] at Fe
        rw [hm0]
        refine w_iloadN (pc' := 191) X at_190 rfl rfl ?_
        refine w_iconst (pc' := 192) (z := (2 : Int32)) X at_191 rfl rfl ?_
        refine w_ishr (pc' := 193) X at_192 rfl ?_
        refine w_iconst (pc' := 194) (z := (1 : Int32)) X at_193 rfl rfl ?_
        refine w_iand (pc' := 195) X at_194 rfl ?_
        refine w_if_eq (pc1 := 207) (pc2 := 198) X at_195 (by decide) (fun (hc195 : ((isr bits (2 : Int32)) &&& (1 : Int32)) = (0 : Int32)) => ?_) (fun (hc195 : ((isr bits (2 : Int32)) &&& (1 : Int32)) ≠ (0 : Int32)) => ?_)
        · have hq : ¬ own_bit bits 2 := fun q => q hc195
          have w := E3 _ _ X Fm (by rw [hm1, own_e0 hq]; exact Fe)
          rw [hm1, own_c0 hq] at w
          exact w
        · have hq : own_bit bits 2 := hc195
          refine w_aload (pc' := 200) X at_198 rfl rfl rfl ?_
          refine w_iload (pc' := 202) X at_200 rfl rfl ?_
          refine w_iconst (pc' := 203) (z := (2 : Int32)) X at_202 rfl rfl ?_
          refine w_iastore (pc' := 204) (i := (own_cnt bits 2)) X Fe at_203 (own_i (by have := own_cle bits 2; omega)) (by have := own_cle bits 2; omega) rfl g2 (fun T26 h26 X26 W26 => ?_)
          have F27 := Fm.other W26 ne3
          have F26 := Fe.set W26
          refine w_iinc (pc' := 207) (z := (Int32.ofNat (own_cnt bits (2 + 1)))) (L' := #[.val (.int ln), .val (.int bits), .val (.int nv), .val (.ref b1), .val (.ref b2), .val (.int (Int32.ofNat (own_cnt bits (2 + 1)))), .unset, .unset, .unset]) X26 at_204 rfl (by rw [own_c1 hq]; exact own_succ _) rfl rfl ?_
          have w := E3 _ _ X26 F27 (by rw [hm1]; exact F26.congr fun c _ => own_e1 hq c)
          rw [hm1] at w
          exact w
    have E1 : ∀ (T : State) (hh : Heap), Sn Z n0 code 9 "com/example/tinderset/tinderset/model/SeedSetPositionsPinLaw" "law" (some .boolean) p l e room_1 s m #[(.int ln), (.int bits)] below meth c T hh 2 12 → AF Z hh b1 .boolean N (own_mf bits 6) → AF Z hh b2 .int 6 (fun c => .int (own_ef bits (min 1 N) c)) → W p e below s room_1 n0 (rm0_Q Z ln bits h n0) (T.setTop (mkF m 163 #[.val (.int ln), .val (.int bits), .val (.int nv), .val (.ref b1), .val (.ref b2), .val (.int (Int32.ofNat (own_cnt bits (min 1 N)))), .unset, .unset, .unset] [])) := by
      intro T hh X Fm Fe
      refine w_iloadN (pc' := 164) X at_163 rfl rfl ?_
      refine w_iconst (pc' := 165) (z := (1 : Int32)) X at_164 rfl rfl ?_
      refine w_icmp_le (pc1 := 185) (pc2 := 168) X at_165 (by decide) (fun (hc165 : nv.toInt ≤ (1 : Int)) => ?_) (fun (hc165 : nv.toInt > (1 : Int)) => ?_)
      · have hm : min (1 + 1) N = min 1 N := own_min0 (by omega)
        have w := E2 _ _ X Fm (by rw [hm]; exact Fe)
        rw [hm] at w
        exact w
      · obtain ⟨hm1, hm0⟩ := own_min1 (j := 1) (N := N) (by omega)
        rw [hm0] at Fe
        rw [hm0]
        refine w_iloadN (pc' := 169) X at_168 rfl rfl ?_
        refine w_iconst (pc' := 170) (z := (1 : Int32)) X at_169 rfl rfl ?_
        refine w_ishr (pc' := 171) X at_170 rfl ?_
        refine w_iconst (pc' := 172) (z := (1 : Int32)) X at_171 rfl rfl ?_
        refine w_iand (pc' := 173) X at_172 rfl ?_
        refine w_if_eq (pc1 := 185) (pc2 := 176) X at_173 (by decide) (fun (hc173 : ((isr bits (1 : Int32)) &&& (1 : Int32)) = (0 : Int32)) => ?_) (fun (hc173 : ((isr bits (1 : Int32)) &&& (1 : Int32)) ≠ (0 : Int32)) => ?_)
        · have hq : ¬ own_bit bits 1 := fun q => q hc173
          have w := E2 _ _ X Fm (by rw [hm1, own_e0 hq]; exact Fe)
          rw [hm1, own_c0 hq] at w
          exact w
        · have hq : own_bit bits 1 := hc173
          refine w_aload (pc' := 178) X at_176 rfl rfl rfl ?_
          refine w_iload (pc' := 180) X at_178 rfl rfl ?_
          refine w_iconst (pc' := 181) (z := (1 : Int32)) X at_180 rfl rfl ?_
          refine w_iastore (pc' := 182) (i := (own_cnt bits 1)) X Fe at_181 (own_i (by have := own_cle bits 1; omega)) (by have := own_cle bits 1; omega) rfl g2 (fun T28 h28 X28 W28 => ?_)
          have F29 := Fm.other W28 ne3
          have F28 := Fe.set W28
          refine w_iinc (pc' := 185) (z := (Int32.ofNat (own_cnt bits (1 + 1)))) (L' := #[.val (.int ln), .val (.int bits), .val (.int nv), .val (.ref b1), .val (.ref b2), .val (.int (Int32.ofNat (own_cnt bits (1 + 1)))), .unset, .unset, .unset]) X28 at_182 rfl (by rw [own_c1 hq]; exact own_succ _) rfl rfl ?_
          have w := E2 _ _ X28 F29 (by rw [hm1]; exact F28.congr fun c _ => own_e1 hq c)
          rw [hm1] at w
          exact w
    have E0 : ∀ (T : State) (hh : Heap), Sn Z n0 code 9 "com/example/tinderset/tinderset/model/SeedSetPositionsPinLaw" "law" (some .boolean) p l e room_1 s m #[(.int ln), (.int bits)] below meth c T hh 2 12 → AF Z hh b1 .boolean N (own_mf bits 6) → AF Z hh b2 .int 6 (fun c => .int (own_ef bits (min 0 N) c)) → W p e below s room_1 n0 (rm0_Q Z ln bits h n0) (T.setTop (mkF m 144 #[.val (.int ln), .val (.int bits), .val (.int nv), .val (.ref b1), .val (.ref b2), .val (.int (Int32.ofNat (own_cnt bits (min 0 N)))), .unset, .unset, .unset] [])) := by
      intro T hh X Fm Fe
      refine w_iloadN (pc' := 145) X at_144 rfl rfl ?_
      refine w_if_le (pc1 := 163) (pc2 := 148) X at_145 (by decide) (fun (hc145 : nv.toInt ≤ (0 : Int)) => ?_) (fun (hc145 : nv.toInt > (0 : Int)) => ?_)
      · have hm : min (0 + 1) N = min 0 N := own_min0 (by omega)
        have w := E1 _ _ X Fm (by rw [hm]; exact Fe)
        rw [hm] at w
        exact w
      · obtain ⟨hm1, hm0⟩ := own_min1 (j := 0) (N := N) (by omega)
        rw [hm0] at Fe
        rw [hm0]
        refine w_iloadN (pc' := 149) X at_148 rfl rfl ?_
        refine w_iconst (pc' := 150) (z := (1 : Int32)) X at_149 rfl rfl ?_
        refine w_iand (pc' := 151) X at_150 rfl ?_
        refine w_if_eq (pc1 := 163) (pc2 := 154) X at_151 (by decide) (fun (hc151 : (bits &&& (1 : Int32)) = (0 : Int32)) => ?_) (fun (hc151 : (bits &&& (1 : Int32)) ≠ (0 : Int32)) => ?_)
        · have hq : ¬ own_bit bits 0 := fun q => ((own_bit0 bits).mp q) hc151
          have w := E1 _ _ X Fm (by rw [hm1, own_e0 hq]; exact Fe)
          rw [hm1, own_c0 hq] at w
          exact w
        · have hq : own_bit bits 0 := (own_bit0 bits).mpr hc151
          refine w_aload (pc' := 156) X at_154 rfl rfl rfl ?_
          refine w_iload (pc' := 158) X at_156 rfl rfl ?_
          refine w_iconst (pc' := 159) (z := (0 : Int32)) X at_158 rfl rfl ?_
          refine w_iastore (pc' := 160) (i := (own_cnt bits 0)) X Fe at_159 (own_i (by have := own_cle bits 0; omega)) (by have := own_cle bits 0; omega) rfl g2 (fun T30 h30 X30 W30 => ?_)
          have F31 := Fm.other W30 ne3
          have F30 := Fe.set W30
          refine w_iinc (pc' := 163) (z := (Int32.ofNat (own_cnt bits (0 + 1)))) (L' := #[.val (.int ln), .val (.int bits), .val (.int nv), .val (.ref b1), .val (.ref b2), .val (.int (Int32.ofNat (own_cnt bits (0 + 1)))), .unset, .unset, .unset]) X30 at_160 rfl (by rw [own_c1 hq]; exact own_succ _) rfl rfl ?_
          have w := E1 _ _ X30 F31 (by rw [hm1]; exact F30.congr fun c _ => own_e1 hq c)
          rw [hm1] at w
          exact w
    have hm : min 0 N = 0 := by omega
    have w := E0 _ _ X2 F4 (by rw [hm]; exact F2.congr fun c _ => rfl)
    rw [hm] at w
    exact w
  have M5 : ∀ (T : State) (hh : Heap), Sn Z n0 code 9 "com/example/tinderset/tinderset/model/SeedSetPositionsPinLaw" "law" (some .boolean) p l e room_1 s m #[(.int ln), (.int bits)] below meth c T hh 1 6 → AF Z hh b1 .boolean N (own_mf bits 5) → W p e below s room_1 n0 (rm0_Q Z ln bits h n0) (T.setTop (mkF m 114 #[.val (.int ln), .val (.int bits), .val (.int nv), .val (.ref b1), .unset, .unset, .unset, .unset, .unset] [])) := by
    intro T hh X Fm
    refine w_iloadN (pc' := 115) X at_114 rfl rfl ?_
    refine w_iconst (pc' := 116) (z := (5 : Int32)) X at_115 rfl rfl ?_
    refine w_icmp_le (pc1 := 135) (pc2 := 119) X at_116 (by decide) (fun (hc116 : nv.toInt ≤ (5 : Int)) => ?_) (fun (hc116 : nv.toInt > (5 : Int)) => ?_)
    · exact M6 _ _ X (Fm.congr (own_m0 bits (by omega)))
    · refine w_aloadN (pc' := 120) X at_119 rfl rfl rfl ?_
      refine w_iconst (pc' := 121) (z := (5 : Int32)) X at_120 rfl rfl ?_
      refine w_iloadN (pc' := 122) X at_121 rfl rfl ?_
      refine w_iconst (pc' := 123) (z := (5 : Int32)) X at_122 rfl rfl ?_
      refine w_ishr (pc' := 124) X at_123 rfl ?_
      refine w_iconst (pc' := 125) (z := (1 : Int32)) X at_124 rfl rfl ?_
      refine w_iand (pc' := 126) X at_125 rfl ?_
      refine w_if_eq (pc1 := 133) (pc2 := 129) X at_126 (by decide) (fun (hc126 : ((isr bits (5 : Int32)) &&& (1 : Int32)) = (0 : Int32)) => ?_) (fun (hc126 : ((isr bits (5 : Int32)) &&& (1 : Int32)) ≠ (0 : Int32)) => ?_)
      · refine w_iconst (pc' := 134) (z := (0 : Int32)) X at_133 rfl rfl ?_
        refine w_bastoreZ (pc' := 135) (i := 5) X Fm at_134 rfl (by omega) rfl g1 (fun T32 h32 X32 W32 => ?_)
        have F32 := Fm.set W32
        exact M6 _ _ X32 (F32.congr fun j _ => own_m1 bits 5 (own_bv0 fun q => ((Iff.rfl (a := own_bit bits 5)).mp q) hc126).symm j)
      · refine w_iconst (pc' := 130) (z := (1 : Int32)) X at_129 rfl rfl ?_
        refine w_goto (pc' := 134) X at_130 (by decide) ?_
        refine w_bastoreZ (pc' := 135) (i := 5) X Fm at_134 rfl (by omega) rfl g1 (fun T33 h33 X33 W33 => ?_)
        have F33 := Fm.set W33
        exact M6 _ _ X33 (F33.congr fun j _ => own_m1 bits 5 (own_bv1 ((Iff.rfl (a := own_bit bits 5)).mpr hc126)).symm j)
  have M4 : ∀ (T : State) (hh : Heap), Sn Z n0 code 9 "com/example/tinderset/tinderset/model/SeedSetPositionsPinLaw" "law" (some .boolean) p l e room_1 s m #[(.int ln), (.int bits)] below meth c T hh 1 6 → AF Z hh b1 .boolean N (own_mf bits 4) → W p e below s room_1 n0 (rm0_Q Z ln bits h n0) (T.setTop (mkF m 93 #[.val (.int ln), .val (.int bits), .val (.int nv), .val (.ref b1), .unset, .unset, .unset, .unset, .unset] [])) := by
    intro T hh X Fm
    refine w_iloadN (pc' := 94) X at_93 rfl rfl ?_
    refine w_iconst (pc' := 95) (z := (4 : Int32)) X at_94 rfl rfl ?_
    refine w_icmp_le (pc1 := 114) (pc2 := 98) X at_95 (by decide) (fun (hc95 : nv.toInt ≤ (4 : Int)) => ?_) (fun (hc95 : nv.toInt > (4 : Int)) => ?_)
    · exact M5 _ _ X (Fm.congr (own_m0 bits (by omega)))
    · refine w_aloadN (pc' := 99) X at_98 rfl rfl rfl ?_
      refine w_iconst (pc' := 100) (z := (4 : Int32)) X at_99 rfl rfl ?_
      refine w_iloadN (pc' := 101) X at_100 rfl rfl ?_
      refine w_iconst (pc' := 102) (z := (4 : Int32)) X at_101 rfl rfl ?_
      refine w_ishr (pc' := 103) X at_102 rfl ?_
      refine w_iconst (pc' := 104) (z := (1 : Int32)) X at_103 rfl rfl ?_
      refine w_iand (pc' := 105) X at_104 rfl ?_
      refine w_if_eq (pc1 := 112) (pc2 := 108) X at_105 (by decide) (fun (hc105 : ((isr bits (4 : Int32)) &&& (1 : Int32)) = (0 : Int32)) => ?_) (fun (hc105 : ((isr bits (4 : Int32)) &&& (1 : Int32)) ≠ (0 : Int32)) => ?_)
      · refine w_iconst (pc' := 113) (z := (0 : Int32)) X at_112 rfl rfl ?_
        refine w_bastoreZ (pc' := 114) (i := 4) X Fm at_113 rfl (by omega) rfl g1 (fun T34 h34 X34 W34 => ?_)
        have F34 := Fm.set W34
        exact M5 _ _ X34 (F34.congr fun j _ => own_m1 bits 4 (own_bv0 fun q => ((Iff.rfl (a := own_bit bits 4)).mp q) hc105).symm j)
      · refine w_iconst (pc' := 109) (z := (1 : Int32)) X at_108 rfl rfl ?_
        refine w_goto (pc' := 113) X at_109 (by decide) ?_
        refine w_bastoreZ (pc' := 114) (i := 4) X Fm at_113 rfl (by omega) rfl g1 (fun T35 h35 X35 W35 => ?_)
        have F35 := Fm.set W35
        exact M5 _ _ X35 (F35.congr fun j _ => own_m1 bits 4 (own_bv1 ((Iff.rfl (a := own_bit bits 4)).mpr hc105)).symm j)
  have M3 : ∀ (T : State) (hh : Heap), Sn Z n0 code 9 "com/example/tinderset/tinderset/model/SeedSetPositionsPinLaw" "law" (some .boolean) p l e room_1 s m #[(.int ln), (.int bits)] below meth c T hh 1 6 → AF Z hh b1 .boolean N (own_mf bits 3) → W p e below s room_1 n0 (rm0_Q Z ln bits h n0) (T.setTop (mkF m 72 #[.val (.int ln), .val (.int bits), .val (.int nv), .val (.ref b1), .unset, .unset, .unset, .unset, .unset] [])) := by
    intro T hh X Fm
    refine w_iloadN (pc' := 73) X at_72 rfl rfl ?_
    refine w_iconst (pc' := 74) (z := (3 : Int32)) X at_73 rfl rfl ?_
    refine w_icmp_le (pc1 := 93) (pc2 := 77) X at_74 (by decide) (fun (hc74 : nv.toInt ≤ (3 : Int)) => ?_) (fun (hc74 : nv.toInt > (3 : Int)) => ?_)
    · exact M4 _ _ X (Fm.congr (own_m0 bits (by omega)))
    · refine w_aloadN (pc' := 78) X at_77 rfl rfl rfl ?_
      refine w_iconst (pc' := 79) (z := (3 : Int32)) X at_78 rfl rfl ?_
      refine w_iloadN (pc' := 80) X at_79 rfl rfl ?_
      refine w_iconst (pc' := 81) (z := (3 : Int32)) X at_80 rfl rfl ?_
      refine w_ishr (pc' := 82) X at_81 rfl ?_
      refine w_iconst (pc' := 83) (z := (1 : Int32)) X at_82 rfl rfl ?_
      refine w_iand (pc' := 84) X at_83 rfl ?_
      refine w_if_eq (pc1 := 91) (pc2 := 87) X at_84 (by decide) (fun (hc84 : ((isr bits (3 : Int32)) &&& (1 : Int32)) = (0 : Int32)) => ?_) (fun (hc84 : ((isr bits (3 : Int32)) &&& (1 : Int32)) ≠ (0 : Int32)) => ?_)
      · refine w_iconst (pc' := 92) (z := (0 : Int32)) X at_91 rfl rfl ?_
        refine w_bastoreZ (pc' := 93) (i := 3) X Fm at_92 rfl (by omega) rfl g1 (fun T36 h36 X36 W36 => ?_)
        have F36 := Fm.set W36
        exact M4 _ _ X36 (F36.congr fun j _ => own_m1 bits 3 (own_bv0 fun q => ((Iff.rfl (a := own_bit bits 3)).mp q) hc84).symm j)
      · refine w_iconst (pc' := 88) (z := (1 : Int32)) X at_87 rfl rfl ?_
        refine w_goto (pc' := 92) X at_88 (by decide) ?_
        refine w_bastoreZ (pc' := 93) (i := 3) X Fm at_92 rfl (by omega) rfl g1 (fun T37 h37 X37 W37 => ?_)
        have F37 := Fm.set W37
        exact M4 _ _ X37 (F37.congr fun j _ => own_m1 bits 3 (own_bv1 ((Iff.rfl (a := own_bit bits 3)).mpr hc84)).symm j)
  have M2 : ∀ (T : State) (hh : Heap), Sn Z n0 code 9 "com/example/tinderset/tinderset/model/SeedSetPositionsPinLaw" "law" (some .boolean) p l e room_1 s m #[(.int ln), (.int bits)] below meth c T hh 1 6 → AF Z hh b1 .boolean N (own_mf bits 2) → W p e below s room_1 n0 (rm0_Q Z ln bits h n0) (T.setTop (mkF m 51 #[.val (.int ln), .val (.int bits), .val (.int nv), .val (.ref b1), .unset, .unset, .unset, .unset, .unset] [])) := by
    intro T hh X Fm
    refine w_iloadN (pc' := 52) X at_51 rfl rfl ?_
    refine w_iconst (pc' := 53) (z := (2 : Int32)) X at_52 rfl rfl ?_
    refine w_icmp_le (pc1 := 72) (pc2 := 56) X at_53 (by decide) (fun (hc53 : nv.toInt ≤ (2 : Int)) => ?_) (fun (hc53 : nv.toInt > (2 : Int)) => ?_)
    · exact M3 _ _ X (Fm.congr (own_m0 bits (by omega)))
    · refine w_aloadN (pc' := 57) X at_56 rfl rfl rfl ?_
      refine w_iconst (pc' := 58) (z := (2 : Int32)) X at_57 rfl rfl ?_
      refine w_iloadN (pc' := 59) X at_58 rfl rfl ?_
      refine w_iconst (pc' := 60) (z := (2 : Int32)) X at_59 rfl rfl ?_
      refine w_ishr (pc' := 61) X at_60 rfl ?_
      refine w_iconst (pc' := 62) (z := (1 : Int32)) X at_61 rfl rfl ?_
      refine w_iand (pc' := 63) X at_62 rfl ?_
      refine w_if_eq (pc1 := 70) (pc2 := 66) X at_63 (by decide) (fun (hc63 : ((isr bits (2 : Int32)) &&& (1 : Int32)) = (0 : Int32)) => ?_) (fun (hc63 : ((isr bits (2 : Int32)) &&& (1 : Int32)) ≠ (0 : Int32)) => ?_)
      · refine w_iconst (pc' := 71) (z := (0 : Int32)) X at_70 rfl rfl ?_
        refine w_bastoreZ (pc' := 72) (i := 2) X Fm at_71 rfl (by omega) rfl g1 (fun T38 h38 X38 W38 => ?_)
        have F38 := Fm.set W38
        exact M3 _ _ X38 (F38.congr fun j _ => own_m1 bits 2 (own_bv0 fun q => ((Iff.rfl (a := own_bit bits 2)).mp q) hc63).symm j)
      · refine w_iconst (pc' := 67) (z := (1 : Int32)) X at_66 rfl rfl ?_
        refine w_goto (pc' := 71) X at_67 (by decide) ?_
        refine w_bastoreZ (pc' := 72) (i := 2) X Fm at_71 rfl (by omega) rfl g1 (fun T39 h39 X39 W39 => ?_)
        have F39 := Fm.set W39
        exact M3 _ _ X39 (F39.congr fun j _ => own_m1 bits 2 (own_bv1 ((Iff.rfl (a := own_bit bits 2)).mpr hc63)).symm j)
  have M1 : ∀ (T : State) (hh : Heap), Sn Z n0 code 9 "com/example/tinderset/tinderset/model/SeedSetPositionsPinLaw" "law" (some .boolean) p l e room_1 s m #[(.int ln), (.int bits)] below meth c T hh 1 6 → AF Z hh b1 .boolean N (own_mf bits 1) → W p e below s room_1 n0 (rm0_Q Z ln bits h n0) (T.setTop (mkF m 30 #[.val (.int ln), .val (.int bits), .val (.int nv), .val (.ref b1), .unset, .unset, .unset, .unset, .unset] [])) := by
    intro T hh X Fm
    refine w_iloadN (pc' := 31) X at_30 rfl rfl ?_
    refine w_iconst (pc' := 32) (z := (1 : Int32)) X at_31 rfl rfl ?_
    refine w_icmp_le (pc1 := 51) (pc2 := 35) X at_32 (by decide) (fun (hc32 : nv.toInt ≤ (1 : Int)) => ?_) (fun (hc32 : nv.toInt > (1 : Int)) => ?_)
    · exact M2 _ _ X (Fm.congr (own_m0 bits (by omega)))
    · refine w_aloadN (pc' := 36) X at_35 rfl rfl rfl ?_
      refine w_iconst (pc' := 37) (z := (1 : Int32)) X at_36 rfl rfl ?_
      refine w_iloadN (pc' := 38) X at_37 rfl rfl ?_
      refine w_iconst (pc' := 39) (z := (1 : Int32)) X at_38 rfl rfl ?_
      refine w_ishr (pc' := 40) X at_39 rfl ?_
      refine w_iconst (pc' := 41) (z := (1 : Int32)) X at_40 rfl rfl ?_
      refine w_iand (pc' := 42) X at_41 rfl ?_
      refine w_if_eq (pc1 := 49) (pc2 := 45) X at_42 (by decide) (fun (hc42 : ((isr bits (1 : Int32)) &&& (1 : Int32)) = (0 : Int32)) => ?_) (fun (hc42 : ((isr bits (1 : Int32)) &&& (1 : Int32)) ≠ (0 : Int32)) => ?_)
      · refine w_iconst (pc' := 50) (z := (0 : Int32)) X at_49 rfl rfl ?_
        refine w_bastoreZ (pc' := 51) (i := 1) X Fm at_50 rfl (by omega) rfl g1 (fun T40 h40 X40 W40 => ?_)
        have F40 := Fm.set W40
        exact M2 _ _ X40 (F40.congr fun j _ => own_m1 bits 1 (own_bv0 fun q => ((Iff.rfl (a := own_bit bits 1)).mp q) hc42).symm j)
      · refine w_iconst (pc' := 46) (z := (1 : Int32)) X at_45 rfl rfl ?_
        refine w_goto (pc' := 50) X at_46 (by decide) ?_
        refine w_bastoreZ (pc' := 51) (i := 1) X Fm at_50 rfl (by omega) rfl g1 (fun T41 h41 X41 W41 => ?_)
        have F41 := Fm.set W41
        exact M2 _ _ X41 (F41.congr fun j _ => own_m1 bits 1 (own_bv1 ((Iff.rfl (a := own_bit bits 1)).mpr hc42)).symm j)
  have M0 : ∀ (T : State) (hh : Heap), Sn Z n0 code 9 "com/example/tinderset/tinderset/model/SeedSetPositionsPinLaw" "law" (some .boolean) p l e room_1 s m #[(.int ln), (.int bits)] below meth c T hh 1 6 → AF Z hh b1 .boolean N (own_mf bits 0) → W p e below s room_1 n0 (rm0_Q Z ln bits h n0) (T.setTop (mkF m 12 #[.val (.int ln), .val (.int bits), .val (.int nv), .val (.ref b1), .unset, .unset, .unset, .unset, .unset] [])) := by
    intro T hh X Fm
    refine w_iloadN (pc' := 13) X at_12 rfl rfl ?_
    refine w_if_le (pc1 := 30) (pc2 := 16) X at_13 (by decide) (fun (hc13 : nv.toInt ≤ (0 : Int)) => ?_) (fun (hc13 : nv.toInt > (0 : Int)) => ?_)
    · exact M1 _ _ X (Fm.congr (own_m0 bits (by omega)))
    · refine w_aloadN (pc' := 17) X at_16 rfl rfl rfl ?_
      refine w_iconst (pc' := 18) (z := (0 : Int32)) X at_17 rfl rfl ?_
      refine w_iloadN (pc' := 19) X at_18 rfl rfl ?_
      refine w_iconst (pc' := 20) (z := (1 : Int32)) X at_19 rfl rfl ?_
      refine w_iand (pc' := 21) X at_20 rfl ?_
      refine w_if_eq (pc1 := 28) (pc2 := 24) X at_21 (by decide) (fun (hc21 : (bits &&& (1 : Int32)) = (0 : Int32)) => ?_) (fun (hc21 : (bits &&& (1 : Int32)) ≠ (0 : Int32)) => ?_)
      · refine w_iconst (pc' := 29) (z := (0 : Int32)) X at_28 rfl rfl ?_
        refine w_bastoreZ (pc' := 30) (i := 0) X Fm at_29 rfl (by omega) rfl g1 (fun T42 h42 X42 W42 => ?_)
        have F42 := Fm.set W42
        exact M1 _ _ X42 (F42.congr fun j _ => own_m1 bits 0 (own_bv0 fun q => ((own_bit0 bits).mp q) hc21).symm j)
      · refine w_iconst (pc' := 25) (z := (1 : Int32)) X at_24 rfl rfl ?_
        refine w_goto (pc' := 29) X at_25 (by decide) ?_
        refine w_bastoreZ (pc' := 30) (i := 0) X Fm at_29 rfl (by omega) rfl g1 (fun T43 h43 X43 W43 => ?_)
        have F43 := Fm.set W43
        exact M1 _ _ X43 (F43.congr fun j _ => own_m1 bits 0 (own_bv1 ((own_bit0 bits).mpr hc21)).symm j)
  exact M0 _ _ X1 (F1.congr fun j _ => rfl)
set_option maxRecDepth 65536 in
set_option maxHeartbeats 40000000 in
theorem comes_1 {Post : Tables → Env → Array Value → State → Outcome → State → Prop} (hpost : ∀ tb e args s v u, (limb_1_1.after args s (.returned v) u = true ∧ limb_1_2.after args s (.returned v) u = true ∧ True) → FrameEnd s (.returned v) u (Jvm.fieldLocs frame_1_writes args s ++ Jvm.arrayLocs frame_1_arrays args s ++ Jvm.staticLocs frame_1_statics s) 16 128 → Post tb e args s (.returned v) u) :
    ArmFor flags0 classFile x code maxLocals ret World_1 tables_1 room_1 Calls_1 rest_1 Pre_1 Post := by
  intro l hfl _ _ p e ha hc hk s m args below hf hA hF happ hP
  obtain ⟨hcalls, hrest, hpre⟩ := hP
  obtain ⟨-, -, -, hnamed, -, -, -, hat⟩ := (Spec.applies_iff hf).mp happ
  obtain ⟨hg, hn⟩ := and_e (Cond.before_iff.mp (show (Jvm.Cond.and given_1 narrow_1).before args s = true from hpre))
  obtain ⟨ga0, gb0⟩ := and_e hg
  obtain ⟨ga1, gb1⟩ := and_e gb0
  obtain ⟨w0, w1, rfl⟩ : ∃ w0 w1 : Value, args = #[w0, w1] := by
    have hs : args.size = 2 := by simpa [Cond.value, given_1] using ga0
    obtain ⟨L⟩ := args
    match L, hs with
    | [w0, w1], _ => exact ⟨w0, w1, rfl⟩
  have hw := fun d (hd : d ∈ tables_1) => atoms_spec (ws := Jvm.Cond.code x code maxLocals ret :: tables_1) hat d (List.mem_cons_of_mem _ hd)
  obtain ⟨i0, ei0⟩ := is_v ga1
  obtain rfl : w0 = (.int i0) := Option.some.inj ei0
  obtain ⟨i1, ei1⟩ := is_v gb1
  obtain rfl : w1 = (.int i1) := Option.some.inj ei1
  obtain ⟨n, o, h1, h2, h3, _, L, rfl, ⟨N, -, rfl⟩, hq⟩ := rm0 l s _ hw tables_1 i0 i1 s.heap s.heap.size (Nat.le_refl _) p e ha hc hk s m _ below hf ((Spec.applies_iff_loose hf).mp happ).1 ⟨rfl, State.Warmed39.refl s, rfl⟩ trivial
  refine ⟨n, _, h1, h2, h3, hpost _ _ _ _ _ _ ⟨Cond.after_iff.mpr rfl, Cond.after_iff.mpr (eq_i res_at (Term.int_eval (1)) rfl), trivial⟩ ⟨hq.1, hq.2.1, (hq.2.2.sift fun y hy => Or.inr (N y hy)).mono (by decide) (by decide)⟩⟩
theorem main_1_1 : Claimed_1_1 := comes_1 fun _ _ _ _ _ _ h hF => ⟨h.1, hF⟩
theorem main_1_2 : Claimed_1_2 := comes_1 fun _ _ _ _ _ _ h hF => ⟨h.2.1, hF⟩
end Jvm.Pilot.@@N@@
namespace Jvm.Pilot.@@N@@
open Jvm Jvm.ClassFile Sem Op Lib Jvm.Free Jvm.Stand Jvm.Pilot.@@N@@.Jvm.D
/-! MADE BY PROGRAM (witnessworld.py) out of the Statement's table words and the real class files: 11 classes; the members and pool entries that the words name. The judged class is class 1, her method 1. -/
namespace start1
open Jvm.ClassFile
def u (s : String) : CpInfo := .utf8 (stringToUtf16 s)
/-- a pool by its gaps: so many unusable entries, then the entry; so many at the end -/
def gap : Nat → List CpInfo → List CpInfo
  | 0, r => r
  | n + 1, r => .unusable :: gap n r
def poolList (es : List (Nat × CpInfo)) (last : Nat) : List CpInfo := es.foldr (fun e r => gap e.1 (e.2 :: r)) (gap last [])
def pool (es : List (Nat × CpInfo)) (last : Nat) : Array CpInfo := ⟨poolList es last⟩
def fileOf (pool : Array CpInfo) (this : Nat) (attrs : Array Attribute := #[]) (ms : Array MethodInfo := #[]) (fl : Nat := 33) (sup : Nat := 0) (ifs : Array Nat := #[]) (fds : Array FieldInfo := #[]) : ClassFile where
  minorVersion := 0
  majorVersion := 65
  constantPool := pool
  accessFlags := fl
  thisClass := this
  superClass := sup
  interfaces := ifs
  fields := fds
  methods := ms
  attributes := attrs
def plain (name : String) (sup : Option ClassId) : Class where
  name := name
  kind := .ordinary
  loader := none
  accessFlags := 33
  super := sup
  interfaces := #[]
  cf := none
  fields := #[]
  methods := #[]
  instanceTypes := #[]
  staticTypes := #[]
  resolved := #[]
  callSites := []
  init := .initialized
  statics := none
  mirror := none

def pool0 : Array CpInfo := pool [(5, u "<init>"), (0, u "()V"), (1, .class_ 10), (1, u "java/lang/Object")] 113

def k0m0 : Method := { name := "<init>", desc := "()V", sig := { parameters := [], returnType := none }, accessFlags := 1, code := none }
/-- java/lang/Object -/
def k0 : Class := { plain "java/lang/Object" none with
  accessFlags := 33
  interfaces := #[]
  cf := some (fileOf pool0 8 #[] #[{ accessFlags := 1, nameIndex := 5, descriptorIndex := 6, attributes := #[] }] 33 0 #[] #[])
  fields := #[]
  methods := #[k0m0]
  instanceTypes := #[]
  staticTypes := #[]
  resolved := Array.replicate 124 none
  statics := none }

def pool1 : Array CpInfo := pool [(2, .class_ 4), (1, u "java/lang/Object"), (0, u "<init>"), (0, u "()V"), (0, .integer 2147483647), (0, .methodref 9 10), (0, .class_ 11), (0, .nameAndType 12 13), (0, u "com/example/tinderset/tinderset/model/SeedSet"), (0, u "positions"), (0, u "([Z)[I"), (0, .methodref 15 16), (0, .class_ 17), (0, .nameAndType 18 19), (0, u "com/example/tinderset/tinderset/model/SeedSetPositionsPinLaw"), (0, u "at"), (0, u "([I[III)Z"), (0, .methodref 15 21), (0, .nameAndType 22 23), (0, u "kept"), (0, u "([ZIII)Z"), (2, u "law"), (0, u "(II)Z")] 7

def k1m0 : Method := { name := "<init>", desc := "()V", sig := { parameters := [], returnType := none }, accessFlags := 2, code := none }
def k1c1 : Code := { maxStack := 4, maxLocals := 9, code := code, exceptionTable := #[], attributes := #[] }
def k1m1 : Method := { name := "law", desc := "(II)Z", sig := { parameters := [.int, .int], returnType := some .boolean }, accessFlags := 9, code := some k1c1 }
def k1c2 : Code := { maxStack := 3, maxLocals := 4, code := method_3_code, exceptionTable := #[], attributes := #[] }
def k1m2 : Method := { name := "at", desc := "([I[III)Z", sig := { parameters := [(.array .int), (.array .int), .int, .int], returnType := some .boolean }, accessFlags := 10, code := some k1c2 }
def k1c3 : Code := { maxStack := 3, maxLocals := 4, code := method_4_code, exceptionTable := #[], attributes := #[] }
def k1m3 : Method := { name := "kept", desc := "([ZIII)Z", sig := { parameters := [(.array .boolean), .int, .int, .int], returnType := some .boolean }, accessFlags := 10, code := some k1c3 }
/-- com/example/tinderset/tinderset/model/SeedSetPositionsPinLaw -/
def k1 : Class := { plain "com/example/tinderset/tinderset/model/SeedSetPositionsPinLaw" (some 0) with
  accessFlags := 49
  interfaces := #[]
  cf := some (fileOf pool1 15 #[] #[{ accessFlags := 2, nameIndex := 5, descriptorIndex := 6, attributes := #[] }, { accessFlags := 9, nameIndex := 26, descriptorIndex := 27, attributes := #[] }, { accessFlags := 10, nameIndex := 18, descriptorIndex := 19, attributes := #[] }, { accessFlags := 10, nameIndex := 22, descriptorIndex := 23, attributes := #[] }] 49 2 #[] #[])
  fields := #[]
  methods := #[k1m0, k1m1, k1m2, k1m3]
  instanceTypes := #[]
  staticTypes := #[]
  resolved := Array.replicate 35 none
  statics := none }

def pool2 : Array CpInfo := pool [(2, .class_ 4), (1, u "java/lang/Object"), (0, u "<init>"), (0, u "()V"), (15, .class_ 23), (0, u "com/example/tinderset/tinderset/model/SeedSet"), (9, u "positions"), (0, u "([Z)[I")] 17

def k2m0 : Method := { name := "<init>", desc := "()V", sig := { parameters := [], returnType := none }, accessFlags := 2, code := none }
def k2c1 : Code := { maxStack := 3, maxLocals := 6, code := prog_67_method_3_code, exceptionTable := #[], attributes := #[] }
def k2m1 : Method := { name := "positions", desc := "([Z)[I", sig := { parameters := [(.array .boolean)], returnType := some (.array .int) }, accessFlags := 9, code := some k2c1 }
/-- com/example/tinderset/tinderset/model/SeedSet -/
def k2 : Class := { plain "com/example/tinderset/tinderset/model/SeedSet" (some 0) with
  accessFlags := 49
  interfaces := #[]
  cf := some (fileOf pool2 22 #[] #[{ accessFlags := 2, nameIndex := 5, descriptorIndex := 6, attributes := #[] }, { accessFlags := 9, nameIndex := 33, descriptorIndex := 34, attributes := #[] }] 49 2 #[] #[])
  fields := #[]
  methods := #[k2m0, k2m1]
  instanceTypes := #[]
  staticTypes := #[]
  resolved := Array.replicate 52 none
  statics := none }

def pool3 : Array CpInfo := pool [(1, u "java/lang/Cloneable"), (0, .class_ 1), (0, u "java/lang/Object"), (0, .class_ 3)] 3

/-- java/lang/Cloneable -/
def k3 : Class := { plain "java/lang/Cloneable" (some 0) with
  accessFlags := 1537
  interfaces := #[]
  cf := some (fileOf pool3 2 #[] #[] 1537 4 #[] #[])
  fields := #[]
  methods := #[]
  instanceTypes := #[]
  staticTypes := #[]
  resolved := Array.replicate 8 none
  statics := none }

def pool4 : Array CpInfo := pool [(1, u "java/io/Serializable"), (0, .class_ 1), (0, u "java/lang/Object"), (0, .class_ 3)] 3

/-- java/io/Serializable -/
def k4 : Class := { plain "java/io/Serializable" (some 0) with
  accessFlags := 1537
  interfaces := #[]
  cf := some (fileOf pool4 2 #[] #[] 1537 4 #[] #[])
  fields := #[]
  methods := #[]
  instanceTypes := #[]
  staticTypes := #[]
  resolved := Array.replicate 8 none
  statics := none }

/-- the primitive boolean -/
def k5 : Class := { plain "boolean" none with kind := .primitive 'Z', accessFlags := 0x411 }
/-- [Z -/
def k6 : Class := { plain "[Z" (some 0) with kind := .array 5 .boolean, interfaces := #[3, 4], accessFlags := 1041 }

/-- the primitive byte -/
def k7 : Class := { plain "byte" none with kind := .primitive 'B', accessFlags := 0x411 }
/-- [B -/
def k8 : Class := { plain "[B" (some 0) with kind := .array 7 .byte, interfaces := #[3, 4], accessFlags := 1041 }

/-- the primitive int -/
def k9 : Class := { plain "int" none with kind := .primitive 'I', accessFlags := 0x411 }
/-- [I -/
def k10 : Class := { plain "[I" (some 0) with kind := .array 9 .int, interfaces := #[3, 4], accessFlags := 1041 }

def heap : Heap := #[]
def classes : Array Class := #[k0, k1, k2, k3, k4, k5, k6, k7, k8, k9, k10]
def interned : List (Array UInt16 × Addr) := []
def slotsUsed : Nat := 0
def theMethod : MethodId := ⟨1, 1⟩
def args0 : Array Value := #[.int 5, .int 3]
def aboutOver (below : List Frame) : State where
  vm := { classes := classes, interned := interned.toArray }
  heap := heap
  slotsUsed := slotsUsed
  threads := #[{ frames := .invoking theMethod args0 :: below }]
def below0 : List Frame := [.native { method := ⟨0, 0⟩, args := #[] }]
def about1 : State := aboutOver below0
def p0 : Program := .bare "" "" ""
def e0 : Env := launch0.env 0 0 0
theorem w_frames : about1.frames = Frame.invoking theMethod args0 :: below0 := rfl
set_option maxRecDepth 65536 in
theorem w_args : argsFit about1.vm theMethod args0 = true := by decide +kernel
set_option maxRecDepth 65536 in
theorem w_heap : heapFits about1 = true := by decide +kernel
set_option maxRecDepth 65536 in
theorem w_runnable : about1.curStatus? = some .runnable := by decide +kernel
set_option maxRecDepth 65536 in
theorem w_alone : about1.alone = true := by decide +kernel
set_option maxRecDepth 65536 in
theorem w_named : about1.methodNamed? x = some theMethod := by decide +kernel
set_option maxRecDepth 65536 in
theorem w_hears : about1.hears theMethod below0 = true := by decide +kernel
set_option maxRecDepth 65536 in
theorem w_ripe : about1.ripe theMethod args0 below0 = true := by decide +kernel
theorem w_running : about1.status = .running := rfl
set_option maxRecDepth 65536 in
theorem w_room : about1.hasRoom e0.platform room_1 = true :=
  launch0.hasRoom_least _ room_1 (by decide +kernel) (by decide +kernel) (by decide +kernel) (by decide +kernel) (by decide +kernel) (by decide +kernel)
theorem allAtoms_all (ts : List Jvm.Cond) (a : Array Jvm.Value) (st : Jvm.State) : (allAtoms ts).before a st = ts.all (fun c => c.before a st) := by
  induction ts with
  | nil => rfl
  | cons c t ih =>
    show (Jvm.Cond.and c (allAtoms t)).before a st = _
    rw [Jvm.Cond.before_and, ih, List.all_cons]
def words1 : List Jvm.Cond := Jvm.Cond.code x code maxLocals ret :: tables_1
/-- a 'code' word, met by the world's own term for the bytes: nothing is compared byte by byte -/
theorem code_word {y : MethodName} {bytes : ByteArray} {mx : Nat} {rt : Option FieldType} {a : Array Value} {s : State} {m : MethodId} {meth : Method} {c : Code} (h1 : s.methodNamed? y = some m) (h2 : s.vm.method? m = some meth) (h3 : meth.code = some c) (h4 : c.code = bytes)
    (h5 : (c.maxLocals == mx && c.exceptionTable.isEmpty && decide (c.maxStack ≤ mostOperands) && decide (meth.sig.returnType = rt) && !meth.locks && decide (parseMethodDescriptor y.desc = some meth.sig)) = true) : (Jvm.Cond.code y bytes mx rt).before a s = true := by
  simp only [Bool.and_eq_true, beq_iff_eq, Bool.not_eq_true', decide_eq_true_eq] at h5
  obtain ⟨⟨⟨⟨⟨g1, g2⟩, g3⟩, g4⟩, g5⟩, g6⟩ := h5
  simp [Cond.before, Cond.holds, Cond.value, h1, h2, h3, h4, g1, g2, g3, g4, g5, g6]
def isCode : Jvm.Cond → Bool
  | .code _ _ _ _ => true
  | _ => false
theorem all_split {L : List Jvm.Cond} {P : Jvm.Cond → Bool} (h1 : L.all (fun c => isCode c || P c) = true) (h2 : ∀ c ∈ L.filter isCode, P c = true) : L.all P = true := by
  refine List.all_eq_true.mpr fun c hc => ?_
  have h := List.all_eq_true.mp h1 c hc
  rcases Bool.eq_false_or_eq_true (isCode c) with hi | hi
  · exact h2 c (List.mem_filter.mpr ⟨hc, hi⟩)
  · simpa [hi] using h
set_option maxRecDepth 65536 in
theorem w_c0 : (Jvm.Cond.code x code maxLocals ret).before args0 about1 = true := code_word (m := ⟨1, 1⟩) (meth := k1m1) (c := k1c1) (by decide +kernel) rfl rfl rfl (by decide +kernel)
set_option maxRecDepth 65536 in
theorem w_c1 : (Jvm.Cond.code ({ cls := "com/example/tinderset/tinderset/model/SeedSet", name := "positions", desc := "([Z)[I" } : Jvm.MethodName) prog_67_method_3_code (6 : Nat) (Option.some (Jvm.ClassFile.FieldType.array Jvm.ClassFile.FieldType.int))).before args0 about1 = true := code_word (m := ⟨2, 1⟩) (meth := k2m1) (c := k2c1) (by decide +kernel) rfl rfl rfl (by decide +kernel)
set_option maxRecDepth 65536 in
theorem w_c2 : (Jvm.Cond.code ({ cls := "com/example/tinderset/tinderset/model/SeedSetPositionsPinLaw", name := "at", desc := "([I[III)Z" } : Jvm.MethodName) method_3_code (4 : Nat) (Option.some Jvm.ClassFile.FieldType.boolean)).before args0 about1 = true := code_word (m := ⟨1, 2⟩) (meth := k1m2) (c := k1c2) (by decide +kernel) rfl rfl rfl (by decide +kernel)
set_option maxRecDepth 65536 in
theorem w_c3 : (Jvm.Cond.code ({ cls := "com/example/tinderset/tinderset/model/SeedSetPositionsPinLaw", name := "kept", desc := "([ZIII)Z" } : Jvm.MethodName) method_4_code (4 : Nat) (Option.some Jvm.ClassFile.FieldType.boolean)).before args0 about1 = true := code_word (m := ⟨1, 3⟩) (meth := k1m3) (c := k1c3) (by decide +kernel) rfl rfl rfl (by decide +kernel)
def codes1 : List Jvm.Cond := [Jvm.Cond.code x code maxLocals ret, Jvm.Cond.code ({ cls := "com/example/tinderset/tinderset/model/SeedSet", name := "positions", desc := "([Z)[I" } : Jvm.MethodName) prog_67_method_3_code (6 : Nat) (Option.some (Jvm.ClassFile.FieldType.array Jvm.ClassFile.FieldType.int)), Jvm.Cond.code ({ cls := "com/example/tinderset/tinderset/model/SeedSetPositionsPinLaw", name := "at", desc := "([I[III)Z" } : Jvm.MethodName) method_3_code (4 : Nat) (Option.some Jvm.ClassFile.FieldType.boolean), Jvm.Cond.code ({ cls := "com/example/tinderset/tinderset/model/SeedSetPositionsPinLaw", name := "kept", desc := "([ZIII)Z" } : Jvm.MethodName) method_4_code (4 : Nat) (Option.some Jvm.ClassFile.FieldType.boolean)]
set_option maxRecDepth 65536 in
theorem codes_eq : words1.filter isCode = codes1 := rfl
theorem w_codes : ∀ c ∈ words1.filter isCode, c.before args0 about1 = true := by
  rw [codes_eq]
  intro c hc
  simp only [codes1, List.mem_cons, List.not_mem_nil, or_false] at hc
  rcases hc with rfl | rfl | rfl | rfl
  · exact w_c0
  · exact w_c1
  · exact w_c2
  · exact w_c3
set_option maxRecDepth 65536 in
theorem w_t1 : words1.all (fun c => isCode c || c.before args0 about1) = true := by decide +kernel
theorem w_tables : (allAtoms (Jvm.Cond.code x code maxLocals ret :: tables_1)).before args0 about1 = true := by
  rw [allAtoms_all]
  show words1.all (fun c => c.before args0 about1) = true
  refine all_split ?_ w_codes
  rw [w_t1]
set_option maxRecDepth 65536 in
theorem w_case : (Jvm.Cond.and given_1 narrow_1).before args0 about1 = true := by decide +kernel
theorem w_applies : (headSpec (Jvm.Cond.code x code maxLocals ret :: tables_1) room_1).applies x e0.platform about1 = true :=
  (Spec.applies_iff w_frames).mpr ⟨w_running, w_runnable, w_alone, w_named, w_hears, w_ripe, w_room, w_tables⟩
theorem atStart : AtStart classFile x code maxLocals ret World_1 tables_1 room_1 Calls_1 rest_1 Pre_1 launch0 p0 e0 about1 theMethod args0 below0 :=
  ⟨lists_1, trivial, launch0.admits_env _ _ _, launch0.least_env, fairChoices_fair.cas, fairChoices_fair.clock, w_frames, w_args, w_heap, w_applies, trivial, trivial, w_case⟩
end start1
theorem witness_1 : WitnessClaimed_1 := ⟨start1.p0, start1.e0, start1.about1, start1.theMethod, start1.args0, start1.below0, start1.atStart⟩
end Jvm.Pilot.@@N@@
