import JvmDerived
import JvmDerived.Pilot.@@N@@Statement
import JvmDerived.Pilot.@@N@@Code
set_option linter.unusedVariables false
set_option linter.unusedSimpArgs false
@@BLOCK:NumsL.lean.txt@@
namespace Jvm.OwnW
open Jvm Jvm.ClassFile Sem Op Lib Jvm.Free Jvm.Stand Jvm.LawKit Jvm.RoadKit
/-! what is left to be shown, and where the run stands -/
def Qc (n0 : Nat) (Q : Option Value → Heap → Prop) (v : Option Value) (h : Heap) (L : List Loc) : Prop := Fr n0 L ∧ n0 ≤ h.size ∧ Q v h
def W (p : Program) (e : Env) (below : List Frame) (s : State) (R : Room) (n0 : Nat) (Q : Option Value → Heap → Prop) (S0 : State) : Prop :=
  ∃ s₂ o, Steps p.tables e below S0 s₂ ∧ s₂.status = .running ∧ Ended s₂ below o ∧ ∃ v L, o = .returned v ∧ Qc n0 Q v s₂.heap L ∧ FrameEnd s o s₂ L R.cells R.slots
def Sn (Z : State) (n0 : Nat) (bs : ByteArray) (mx : Nat) (own nm : String) (ret : Option FieldType) (p : Program) (l : Launch) (e : Env) (R : Room) (s : State) (m : MethodId) (args : Array Value) (below : List Frame) (meth : Method) (c : Code) (T : State) (h : Heap) (cells slots : Nat) : Prop :=
  ∃ locs, Stand p l e R s m args below meth c T locs cells slots ∧ T.heap = h ∧ Fr n0 locs ∧ n0 ≤ h.size ∧ cells ≤ R.cells ∧ slots ≤ R.slots ∧ p.tables.exec = Jvm.exec ∧ Z.Warmed39 s.vm ∧ c.code = bs ∧ c.maxLocals = mx ∧ s.vm.findClass own = some m.cls ∧ meth.name = nm ∧ meth.sig.returnType = ret ∧ meth.locks = false
def Ct (l : Launch) (Z : State) (y : MethodName) (bs : ByteArray) (mx : Nat) (ret : Option FieldType) (ws : List Jvm.Cond) (R : Room) (as' : Array Value) (h : Heap) (n0 : Nat) (Q : Option Value → Heap → Prop) : Prop :=
  MetFree l y (head1 (Cond.code y bs mx ret :: ws) R) (fun a U => a = as' ∧ Z.Warmed39 U.vm ∧ U.heap = h) (fun _ _ _ _ _ => True) (fun _ U o U' => ∃ v L, o = .returned v ∧ Qc n0 Q v U'.heap L ∧ FrameEnd U o U' L R.cells R.slots)
theorem Ct.of {l : Launch} {Z : State} {y : MethodName} {bs : ByteArray} {mx : Nat} {ret : Option FieldType} {ws : List Jvm.Cond} {R : Room} {as' : Array Value} {h : Heap} {n0 : Nat} {Q : Option Value → Heap → Prop} {Ls : Array Slot}
    (hp : plainFor y = true) (hn : n0 ≤ h.size) (he : ∀ m, entryFrame m as' mx = mkF m 0 Ls [])
    (body : ∀ p e s m below meth c T, Sn Z n0 bs mx y.cls y.name ret p l e R s m as' below meth c T h 0 0 → W p e below s R n0 Q (T.setTop (mkF m 0 Ls []))) : Ct l Z y bs mx ret ws R as' h n0 Q := by
  refine MetFree.of_bodySF hp hisR ?_
  intro p e s m args below meth c s₁ Bd hml0 hP hK
  obtain ⟨rfl, hZ, hh⟩ := hP
  have X0 : Stand p l e R s m args below meth c s₁ [] 0 0 := Stand.of_body Bd
  have e0 : s₁.heap = h := by rw [← hh, Bd.state]; rfl
  obtain ⟨s2, o, st, r⟩ := body p e s m below meth c s₁ ⟨[], X0, e0, Fr.nil n0, hn, Nat.zero_le _, Nat.zero_le _, Bd.exec, hZ, Bd.bytes, hml0, findClass_of_methodNamed Bd.named, (name_of_methodNamed Bd.named Bd.method).1, Bd.returns, Bd.notSynchronized⟩
  exact ⟨s2, o, castTop (he m) st, r⟩
/-! the shifts, by names -/
def lus (x : Int64) (y : Int32) : Int64 := (x.toUInt64 >>> (y &&& 0x3f).toInt64.toUInt64).toInt64
def lsl (x : Int64) (y : Int32) : Int64 := x <<< (y &&& 0x3f).toInt64
def lsr (x : Int64) (y : Int32) : Int64 := x >>> (y &&& 0x3f).toInt64
def ius (x : Int32) (y : Int32) : Int32 := (x.toUInt32 >>> (y &&& 31).toUInt32).toInt32
def isl (x : Int32) (y : Int32) : Int32 := x <<< (y &&& 31)
def isr (x : Int32) (y : Int32) : Int32 := x >>> (y &&& 31)
theorem sh_u : ∀ k : Nat, k < 64 → ((Int32.ofNat k &&& 0x3f).toInt64.toUInt64.toBitVec % 64).toNat = k := by decide +kernel
theorem sh_s : ∀ k : Nat, k < 64 → ((Int32.ofNat k &&& 0x3f).toInt64.toBitVec.smod 64).toNat = k := by decide +kernel
theorem sh_u32 : ∀ k : Nat, k < 32 → ((Int32.ofNat k &&& 31).toUInt32.toBitVec % 32).toNat = k := by decide +kernel
theorem sh_s32 : ∀ k : Nat, k < 32 → ((Int32.ofNat k &&& 31).toBitVec.smod 32).toNat = k := by decide +kernel
theorem lusB (x : Int64) {k : Nat} (hk : k < 64) : (lus x (Int32.ofNat k)).toBitVec = x.toBitVec >>> k := by
  show (x.toUInt64 >>> (Int32.ofNat k &&& 0x3f).toInt64.toUInt64).toBitVec = _
  rw [UInt64.toBitVec_shiftRight, BitVec.ushiftRight_eq', sh_u k hk]; rfl
theorem lslB (x : Int64) {k : Nat} (hk : k < 64) : (lsl x (Int32.ofNat k)).toBitVec = x.toBitVec <<< k := by
  unfold lsl
  rw [Int64.toBitVec_shiftLeft, BitVec.shiftLeft_eq', sh_s k hk]
theorem lsrB (x : Int64) {k : Nat} (hk : k < 64) : (lsr x (Int32.ofNat k)).toBitVec = x.toBitVec.sshiftRight k := by
  unfold lsr
  rw [Int64.toBitVec_shiftRight, BitVec.sshiftRight_eq', sh_s k hk]
theorem iusB (x : Int32) {k : Nat} (hk : k < 32) : (ius x (Int32.ofNat k)).toBitVec = x.toBitVec >>> k := by
  show (x.toUInt32 >>> (Int32.ofNat k &&& 31).toUInt32).toBitVec = _
  rw [UInt32.toBitVec_shiftRight, BitVec.ushiftRight_eq', sh_u32 k hk]; rfl
theorem isrB (x : Int32) {k : Nat} (hk : k < 32) : (isr x (Int32.ofNat k)).toBitVec = x.toBitVec.sshiftRight k := by
  unfold isr
  rw [Int32.toBitVec_shiftRight, BitVec.sshiftRight_eq', sh_s32 k hk]
/-- the long read without its sign -/
def un (x : Int64) : Nat := x.toBitVec.toNat
theorem un_inj {x y : Int64} (h : un x = un y) : x = y := Int64.toBitVec_inj.mp (BitVec.eq_of_toNat_eq h)
theorem un_lt (x : Int64) : un x < 2 ^ 64 := x.toBitVec.isLt
theorem un_of_nonneg {x : Int64} (h : 0 ≤ x.toInt) : (un x : Int) = x.toInt ∧ un x < 2 ^ 63 := by
  have e : x.toInt = if 2 * un x < 2 ^ 64 then (un x : Int) else (un x : Int) - ((2 ^ 64 : Nat) : Int) := BitVec.toInt_eq_toNat_cond _
  have l := un_lt x
  by_cases q : 2 * un x < 2 ^ 64
  · rw [if_pos q] at e; omega
  · rw [if_neg q] at e; omega
theorem un_lus (x : Int64) {k : Nat} (hk : k < 64) : un (lus x (Int32.ofNat k)) = un x / 2 ^ k := by
  unfold un; rw [lusB x hk, BitVec.toNat_ushiftRight, Nat.shiftRight_eq_div_pow]
theorem un_lsl (x : Int64) {k : Nat} (hk : k < 64) : un (lsl x (Int32.ofNat k)) = un x * 2 ^ k % 2 ^ 64 := by
  unfold un; rw [lslB x hk, BitVec.toNat_shiftLeft, Nat.shiftLeft_eq]
theorem un_or (x y : Int64) : un (x ||| y) = un x ||| un y := by
  unfold un; rw [Int64.toBitVec_or, BitVec.toNat_or]
theorem un_and (x y : Int64) : un (x &&& y) = un x &&& un y := by
  unfold un; rw [Int64.toBitVec_and, BitVec.toNat_and]
theorem un_mask (x m : Int64) {k : Nat} (hm : un m = 2 ^ k - 1) : un (x &&& m) = un x % 2 ^ k := by
  rw [un_and, hm, Nat.and_two_pow_sub_one_eq_mod]
theorem toInt_of_un {x : Int64} (h : un x < 2 ^ 63) : x.toInt = un x := by
  have e : x.toInt = x.toBitVec.toInt := rfl
  rw [e, BitVec.toInt_eq_toNat_cond]
  unfold un at *
  rw [if_pos (by omega)]
theorem lus_nonneg {x : Int64} (h : 0 ≤ x.toInt) {k : Nat} (hk : k < 64) : (lus x (Int32.ofNat k)).toInt = x.toInt / 2 ^ k := by
  have h1 := un_of_nonneg h
  have h2 := un_lus x hk
  have h3 : un x / 2 ^ k ≤ un x := Nat.div_le_self _ _
  rw [toInt_of_un (by omega), h2, ← h1.1]; simp
theorem byteN : ∀ b : BitVec 8, ((Int8.ofBitVec b).toInt32.toInt8.toInt32 &&& 255).toInt64.toBitVec.toNat = b.toNat := by decide +kernel
theorem byteU (v : Int64) : un ((v.toInt32.toInt8.toInt32.toInt8.toInt32 &&& 255).toInt64) = un v % 256 := by
  have e : (v.toInt32.toInt8).toBitVec.toNat = un v % 256 := by
    show ((v.toBitVec.signExtend 32).signExtend 8).toNat = _
    rw [BitVec.signExtend_eq_setWidth_of_le _ (by decide), BitVec.signExtend_eq_setWidth_of_le _ (by decide), BitVec.toNat_setWidth, BitVec.toNat_setWidth]
    unfold un; omega
  have h := byteN v.toInt32.toInt8.toBitVec
  rw [e] at h
  exact h
theorem catU {a c : Int64} {k : Nat} (hk : k < 64) (ha : un a * 2 ^ k < 2 ^ 64) (hc : un c < 2 ^ k) : un (lsl a (Int32.ofNat k) ||| c) = un a * 2 ^ k + un c := by
  rw [un_or, un_lsl a hk, Nat.mod_eq_of_lt ha, ← Nat.shiftLeft_eq, Nat.shiftLeft_add_eq_or_of_lt hc]
/-! an array: its kind, its length, what each place holds -/
def AF (Z : State) (h : Heap) (a : Addr) (ty : FieldType) (n : Nat) (f : Nat → Value) : Prop := ∃ c : Cell, Arr Z h a c ty ∧ c.slots.size = n ∧ n < 2 ^ 31 ∧ ∀ j, j < n → c.slots[j]? = some (f j)
def up (f : Nat → Value) (i : Nat) (v : Value) : Nat → Value := fun j => if j = i then v else f j
section
variable {Z : State} {h h' h0 : Heap} {a b : Addr} {ty : FieldType} {n i sl : Nat} {f g : Nat → Value} {v : Value} {ws : List Addr}
theorem AF.lt (F : AF Z h a ty n f) : a < h.size := by obtain ⟨c, A, -⟩ := F; exact A.lt
theorem AF.len (F : AF Z h a ty n f) : n < 2 ^ 31 := by obtain ⟨c, -, -, q, -⟩ := F; exact q
theorem AF.ext (F : AF Z h a ty n f) (E : Ext h h') : AF Z h' a ty n f := by obtain ⟨c, A, r⟩ := F; exact ⟨c, A.ext E, r⟩
theorem AF.other (F : AF Z h b ty n f) (W : Wr h h' a sl v) (q : b ≠ a) : AF Z h' b ty n f := by obtain ⟨c, A, r⟩ := F; exact ⟨c, A.other W q, r⟩
theorem AF.keep (F : AF Z h a ty n f) (K : Keep h h' ws) (q : a ∉ ws) : AF Z h' a ty n f := by obtain ⟨c, A, r⟩ := F; exact ⟨c, ⟨K.2.1 a c A.1 q, A.2⟩, r⟩
theorem AF.congr (F : AF Z h a ty n f) (q : ∀ j, j < n → f j = g j) : AF Z h a ty n g := by obtain ⟨c, A, r1, r2, r3⟩ := F; exact ⟨c, A, r1, r2, fun j hj => by rw [← q j hj]; exact r3 j hj⟩
theorem AF.set (F : AF Z h a ty n f) (W : Wr h h' a i v) : AF Z h' a ty n (up f i v) := by
  obtain ⟨c, A, r1, r2, r3⟩ := F
  refine ⟨_, A.same W, by rw [sz_set]; exact r1, r2, fun j hj => ?_⟩
  by_cases u : j = i
  · subst u; simp [Cell.setSlot, up, r1, hj]
  · simp only [Cell.setSlot, up, u, if_false]; rw [Array.getElem?_setIfInBounds_ne (Ne.symm u)]; exact r3 j hj
theorem AF.new {k : ClassId} {z : Int32} (A : Arr Z h a (newA k ty z) ty) (q : z.toInt = n) : AF Z h a ty n (fun _ => defaultValue ty) := by
  have := Int32.toInt_lt z
  refine ⟨_, A, by rw [sz_new]; simp only [Int32.toNatClampNeg]; omega, by omega, fun j hj => ?_⟩
  have : j < z.toNatClampNeg := by simp only [Int32.toNatClampNeg]; omega
  simp [newA, this]
theorem up_eq {j : Nat} (q : j = i) : up f i v j = v := if_pos q
theorem up_ne {j : Nat} (q : j ≠ i) : up f i v j = f j := if_neg q
theorem ne_size (q : b = h.size) (r : a < h.size) : a ≠ b := by subst q; exact Nat.ne_of_lt r
theorem Keep.app (K : Keep h0 h ws) (K' : Keep h h' ws) : Keep h0 h' ws := K.trans K' fun x hx => Or.inl hx
end
section
variable {p : Program} {l : Launch} {e : Env} {R : Room} {s : State} {m : MethodId} {args : Array Value} {below : List Frame} {meth : Method} {c : Code} {Z : State} {a0 : Array Value} {n0 : Nat} {bs : ByteArray} {mx : Nat} {own nm : String} {ret : Option FieldType} {T : State} {h : Heap} {cells slots : Nat} {Q : Option Value → Heap → Prop} {pc pc' pc1 pc2 k : Nat} {Ls L' : Array Slot} {st : List Value} {o : Int}
theorem W.of {S0 S1 : State} (q : ∀ t, Steps p.tables e below S1 t → Steps p.tables e below S0 t) (w : W p e below s R n0 Q S1) : W p e below s R n0 Q S0 := by
  obtain ⟨s2, o, st, r⟩ := w; exact ⟨s2, o, q _ st, r⟩
theorem W.fwd {S0 S1 : State} (q : Steps p.tables e below S0 S1) (w : W p e below s R n0 Q S1) : W p e below s R n0 Q S0 := W.of (fun _ k => q.trans k) w
theorem w_topI {x x' : Int32} (q : x = x') (w : W p e below s R n0 Q (T.setTop (mkF m pc Ls (.int x' :: st)))) : W p e below s R n0 Q (T.setTop (mkF m pc Ls (.int x :: st))) := by rw [q]; exact w
theorem w_topJ {x x' : Int64} (q : x = x') (w : W p e below s R n0 Q (T.setTop (mkF m pc Ls (.long x' :: st)))) : W p e below s R n0 Q (T.setTop (mkF m pc Ls (.long x :: st))) := by rw [q]; exact w
theorem Sn.size (X : Sn Z n0 bs mx own nm ret p l e R s m args below meth c T h cells slots) : n0 ≤ h.size := by obtain ⟨_, _, _, _, q, _⟩ := X; exact q
theorem Sn.more (X : Sn Z n0 bs mx own nm ret p l e R s m args below meth c T h cells slots) {cells' slots' : Nat} (q : cells ≤ cells' ∧ slots ≤ slots' ∧ cells' ≤ R.cells ∧ slots' ≤ R.slots) : Sn Z n0 bs mx own nm ret p l e R s m args below meth c T h cells' slots' := by
  obtain ⟨locs, X, r1, r2, r3, -, -, r⟩ := X; exact ⟨locs, X.more q.1 q.2.1, r1, r2, r3, q.2.2.1, q.2.2.2, r⟩
theorem w_iload (X : Sn Z n0 bs mx own nm ret p l e R s m args below meth c T h cells slots) {v : Int32} (hd : decode bs pc = .ok (.iload k, 2)) (hl : Ls[k]? = some (.val (.int v))) (hp : pc + 2 = pc')
    (w : W p e below s R n0 Q (T.setTop (mkF m pc' Ls (.int v :: st)))) : W p e below s R n0 Q (T.setTop (mkF m pc Ls (st))) := by
  obtain ⟨locs, X, eT, N, hs0, hcl, hsl, hx, hZ, rfl, hml, hown, hnm, hret, hlk⟩ := X
  subst hp
  exact W.of (fun t k => XS.iload X.here hx rfl hd hl k) w
theorem w_iloadN (X : Sn Z n0 bs mx own nm ret p l e R s m args below meth c T h cells slots) {v : Int32} {q : Fin 4} (hd : decode bs pc = .ok (.iload_n q, 1)) (hl : Ls[q.val]? = some (.val (.int v))) (hp : pc + 1 = pc')
    (w : W p e below s R n0 Q (T.setTop (mkF m pc' Ls (.int v :: st)))) : W p e below s R n0 Q (T.setTop (mkF m pc Ls (st))) := by
  obtain ⟨locs, X, eT, N, hs0, hcl, hsl, hx, hZ, rfl, hml, hown, hnm, hret, hlk⟩ := X
  subst hp
  exact W.of (fun t k => XS.iloadN X.here hx rfl hd hl k) w
theorem w_istore (X : Sn Z n0 bs mx own nm ret p l e R s m args below meth c T h cells slots) {v : Int32} (hd : decode bs pc = .ok (.istore k, 2)) (hl : storeLocals Ls k (.int v) = some L') (hp : pc + 2 = pc')
    (w : W p e below s R n0 Q (T.setTop (mkF m pc' L' (st)))) : W p e below s R n0 Q (T.setTop (mkF m pc Ls (.int v :: st))) := by
  obtain ⟨locs, X, eT, N, hs0, hcl, hsl, hx, hZ, rfl, hml, hown, hnm, hret, hlk⟩ := X
  subst hp
  exact W.of (fun t k => XS.istore X.here hx rfl hd rfl hl k) w
theorem w_istoreN (X : Sn Z n0 bs mx own nm ret p l e R s m args below meth c T h cells slots) {v : Int32} {q : Fin 4} (hd : decode bs pc = .ok (.istore_n q, 1)) (hl : storeLocals Ls q.val (.int v) = some L') (hp : pc + 1 = pc')
    (w : W p e below s R n0 Q (T.setTop (mkF m pc' L' (st)))) : W p e below s R n0 Q (T.setTop (mkF m pc Ls (.int v :: st))) := by
  obtain ⟨locs, X, eT, N, hs0, hcl, hsl, hx, hZ, rfl, hml, hown, hnm, hret, hlk⟩ := X
  subst hp
  exact W.of (fun t k => XS.istoreN X.here hx rfl hd rfl hl k) w
theorem w_lload (X : Sn Z n0 bs mx own nm ret p l e R s m args below meth c T h cells slots) {v : Int64} (hd : decode bs pc = .ok (.lload k, 2)) (hl : Ls[k]? = some (.val (.long v))) (hp : pc + 2 = pc')
    (w : W p e below s R n0 Q (T.setTop (mkF m pc' Ls (.long v :: st)))) : W p e below s R n0 Q (T.setTop (mkF m pc Ls (st))) := by
  obtain ⟨locs, X, eT, N, hs0, hcl, hsl, hx, hZ, rfl, hml, hown, hnm, hret, hlk⟩ := X
  subst hp
  exact W.of (fun t k => XS.lload X.here hx rfl hd hl k) w
theorem w_lloadN (X : Sn Z n0 bs mx own nm ret p l e R s m args below meth c T h cells slots) {v : Int64} {q : Fin 4} (hd : decode bs pc = .ok (.lload_n q, 1)) (hl : Ls[q.val]? = some (.val (.long v))) (hp : pc + 1 = pc')
    (w : W p e below s R n0 Q (T.setTop (mkF m pc' Ls (.long v :: st)))) : W p e below s R n0 Q (T.setTop (mkF m pc Ls (st))) := by
  obtain ⟨locs, X, eT, N, hs0, hcl, hsl, hx, hZ, rfl, hml, hown, hnm, hret, hlk⟩ := X
  subst hp
  exact W.of (fun t k => XS.lloadN X.here hx rfl hd hl k) w
theorem w_lstore (X : Sn Z n0 bs mx own nm ret p l e R s m args below meth c T h cells slots) {v : Int64} (hd : decode bs pc = .ok (.lstore k, 2)) (hl : storeLocals Ls k (.long v) = some L') (hp : pc + 2 = pc')
    (w : W p e below s R n0 Q (T.setTop (mkF m pc' L' (st)))) : W p e below s R n0 Q (T.setTop (mkF m pc Ls (.long v :: st))) := by
  obtain ⟨locs, X, eT, N, hs0, hcl, hsl, hx, hZ, rfl, hml, hown, hnm, hret, hlk⟩ := X
  subst hp
  exact W.of (fun t k => XS.lstore X.here hx rfl hd rfl hl k) w
theorem w_lstoreN (X : Sn Z n0 bs mx own nm ret p l e R s m args below meth c T h cells slots) {v : Int64} {q : Fin 4} (hd : decode bs pc = .ok (.lstore_n q, 1)) (hl : storeLocals Ls q.val (.long v) = some L') (hp : pc + 1 = pc')
    (w : W p e below s R n0 Q (T.setTop (mkF m pc' L' (st)))) : W p e below s R n0 Q (T.setTop (mkF m pc Ls (.long v :: st))) := by
  obtain ⟨locs, X, eT, N, hs0, hcl, hsl, hx, hZ, rfl, hml, hown, hnm, hret, hlk⟩ := X
  subst hp
  exact W.of (fun t k => XS.lstoreN X.here hx rfl hd rfl hl k) w
theorem w_aload (X : Sn Z n0 bs mx own nm ret p l e R s m args below meth c T h cells slots) {v : Value} (hd : decode bs pc = .ok (.aload k, 2)) (hl : Ls[k]? = some (.val v)) (hv : v.isRef = true) (hp : pc + 2 = pc')
    (w : W p e below s R n0 Q (T.setTop (mkF m pc' Ls (v :: st)))) : W p e below s R n0 Q (T.setTop (mkF m pc Ls (st))) := by
  obtain ⟨locs, X, eT, N, hs0, hcl, hsl, hx, hZ, rfl, hml, hown, hnm, hret, hlk⟩ := X
  subst hp
  exact W.of (fun t k => XS.aload X.here hx rfl hd hl hv k) w
theorem w_aloadN (X : Sn Z n0 bs mx own nm ret p l e R s m args below meth c T h cells slots) {v : Value} {q : Fin 4} (hd : decode bs pc = .ok (.aload_n q, 1)) (hl : Ls[q.val]? = some (.val v)) (hv : v.isRef = true) (hp : pc + 1 = pc')
    (w : W p e below s R n0 Q (T.setTop (mkF m pc' Ls (v :: st)))) : W p e below s R n0 Q (T.setTop (mkF m pc Ls (st))) := by
  obtain ⟨locs, X, eT, N, hs0, hcl, hsl, hx, hZ, rfl, hml, hown, hnm, hret, hlk⟩ := X
  subst hp
  exact W.of (fun t k => XS.aloadN X.here hx rfl hd hl hv k) w
theorem w_astore (X : Sn Z n0 bs mx own nm ret p l e R s m args below meth c T h cells slots) {v : Value} (hd : decode bs pc = .ok (.astore k, 2)) (hv : v.isRef = true) (hl : storeLocals Ls k v = some L') (hp : pc + 2 = pc')
    (w : W p e below s R n0 Q (T.setTop (mkF m pc' L' (st)))) : W p e below s R n0 Q (T.setTop (mkF m pc Ls (v :: st))) := by
  obtain ⟨locs, X, eT, N, hs0, hcl, hsl, hx, hZ, rfl, hml, hown, hnm, hret, hlk⟩ := X
  subst hp
  exact W.of (fun t k => XS.astore X.here hx rfl hd rfl hv hl k) w
theorem w_astoreN (X : Sn Z n0 bs mx own nm ret p l e R s m args below meth c T h cells slots) {v : Value} {q : Fin 4} (hd : decode bs pc = .ok (.astore_n q, 1)) (hv : v.isRef = true) (hl : storeLocals Ls q.val v = some L') (hp : pc + 1 = pc')
    (w : W p e below s R n0 Q (T.setTop (mkF m pc' L' (st)))) : W p e below s R n0 Q (T.setTop (mkF m pc Ls (v :: st))) := by
  obtain ⟨locs, X, eT, N, hs0, hcl, hsl, hx, hZ, rfl, hml, hown, hnm, hret, hlk⟩ := X
  subst hp
  exact W.of (fun t k => XS.astoreN X.here hx rfl hd rfl hv hl k) w
theorem w_iconst (X : Sn Z n0 bs mx own nm ret p l e R s m args below meth c T h cells slots) {z : Int32} (hd : decode bs pc = .ok (.iconst o, 1)) (hz : Int32.ofInt o = z) (hp : pc + 1 = pc')
    (w : W p e below s R n0 Q (T.setTop (mkF m pc' Ls (.int z :: st)))) : W p e below s R n0 Q (T.setTop (mkF m pc Ls (st))) := by
  obtain ⟨locs, X, eT, N, hs0, hcl, hsl, hx, hZ, rfl, hml, hown, hnm, hret, hlk⟩ := X
  subst hp
  exact W.of (fun t k => by subst hz; exact XS.iconst X.here hx rfl hd k) w
theorem w_bipush (X : Sn Z n0 bs mx own nm ret p l e R s m args below meth c T h cells slots) {z : Int32} (hd : decode bs pc = .ok (.bipush o, 2)) (hz : (Int8.ofInt o).toInt32 = z) (hp : pc + 2 = pc')
    (w : W p e below s R n0 Q (T.setTop (mkF m pc' Ls (.int z :: st)))) : W p e below s R n0 Q (T.setTop (mkF m pc Ls (st))) := by
  obtain ⟨locs, X, eT, N, hs0, hcl, hsl, hx, hZ, rfl, hml, hown, hnm, hret, hlk⟩ := X
  subst hp
  exact W.of (fun t k => by subst hz; exact XS.bipush X.here hx rfl hd k) w
theorem w_sipush (X : Sn Z n0 bs mx own nm ret p l e R s m args below meth c T h cells slots) {z : Int32} (hd : decode bs pc = .ok (.sipush o, 3)) (hz : (Int16.ofInt o).toInt32 = z) (hp : pc + 3 = pc')
    (w : W p e below s R n0 Q (T.setTop (mkF m pc' Ls (.int z :: st)))) : W p e below s R n0 Q (T.setTop (mkF m pc Ls (st))) := by
  obtain ⟨locs, X, eT, N, hs0, hcl, hsl, hx, hZ, rfl, hml, hown, hnm, hret, hlk⟩ := X
  subst hp
  exact W.of (fun t k => by subst hz; exact XS.sipush X.here hx rfl hd k) w
theorem w_lconst (X : Sn Z n0 bs mx own nm ret p l e R s m args below meth c T h cells slots) {z : Int64} {q : Fin 2} (hd : decode bs pc = .ok (.lconst q, 1)) (hz : Int64.ofNat q = z) (hp : pc + 1 = pc')
    (w : W p e below s R n0 Q (T.setTop (mkF m pc' Ls (.long z :: st)))) : W p e below s R n0 Q (T.setTop (mkF m pc Ls (st))) := by
  obtain ⟨locs, X, eT, N, hs0, hcl, hsl, hx, hZ, rfl, hml, hown, hnm, hret, hlk⟩ := X
  subst hp
  exact W.of (fun t k => by subst hz; exact XS.lconst X.here hx rfl hd k) w
theorem w_aconst_null (X : Sn Z n0 bs mx own nm ret p l e R s m args below meth c T h cells slots) (hd : decode bs pc = .ok (.aconst_null, 1)) (hp : pc + 1 = pc')
    (w : W p e below s R n0 Q (T.setTop (mkF m pc' Ls (.null :: st)))) : W p e below s R n0 Q (T.setTop (mkF m pc Ls (st))) := by
  obtain ⟨locs, X, eT, N, hs0, hcl, hsl, hx, hZ, rfl, hml, hown, hnm, hret, hlk⟩ := X
  subst hp
  exact W.of (fun t k => XS.aconstNull X.here hx rfl hd k) w
theorem w_ldc (X : Sn Z n0 bs mx own nm ret p l e R s m args below meth c T h cells slots) {z : Int32} {q : Nat} (hd : decode bs pc = .ok (.ldc q, 2)) (hw : (Cond.constant own q z).before a0 Z = true) (hp : pc + 2 = pc')
    (w : W p e below s R n0 Q (T.setTop (mkF m pc' Ls (.int z :: st)))) : W p e below s R n0 Q (T.setTop (mkF m pc Ls (st))) := by
  obtain ⟨locs, X, eT, N, hs0, hcl, hsl, hx, hZ, rfl, hml, hown, hnm, hret, hlk⟩ := X
  subst hp
  exact W.of (fun t k => X.ldcInt (own := own) (v := z) hx hown (mvT (args := args) (s := s) hZ hw rfl) (g := mkF m pc Ls st) rfl hd _ k) w
theorem w_ldc2 (X : Sn Z n0 bs mx own nm ret p l e R s m args below meth c T h cells slots) {z : Int64} {q : Nat} (hd : decode bs pc = .ok (.ldc2_w q, 3)) (hw : (Cond.constantLong own q z).before a0 Z = true) (hp : pc + 3 = pc')
    (w : W p e below s R n0 Q (T.setTop (mkF m pc' Ls (.long z :: st)))) : W p e below s R n0 Q (T.setTop (mkF m pc Ls (st))) := by
  obtain ⟨locs, X, eT, N, hs0, hcl, hsl, hx, hZ, rfl, hml, hown, hnm, hret, hlk⟩ := X
  subst hp
  exact W.of (fun t k => X.ldc2Long (own := own) (v := z) hx hown (mvT (args := args) (s := s) hZ hw rfl) (g := mkF m pc Ls st) rfl hd _ k) w
theorem w_iadd (X : Sn Z n0 bs mx own nm ret p l e R s m args below meth c T h cells slots) {x y : Int32} (hd : decode bs pc = .ok (.iadd, 1)) (hp : pc + 1 = pc')
    (w : W p e below s R n0 Q (T.setTop (mkF m pc' Ls (.int (x + y) :: st)))) : W p e below s R n0 Q (T.setTop (mkF m pc Ls (.int y :: .int x :: st))) := by
  obtain ⟨locs, X, eT, N, hs0, hcl, hsl, hx, hZ, rfl, hml, hown, hnm, hret, hlk⟩ := X
  subst hp
  exact W.of (fun t k => XS.iadd X.here hx rfl hd rfl k) w
theorem w_ladd (X : Sn Z n0 bs mx own nm ret p l e R s m args below meth c T h cells slots) {x y : Int64} (hd : decode bs pc = .ok (.ladd, 1)) (hp : pc + 1 = pc')
    (w : W p e below s R n0 Q (T.setTop (mkF m pc' Ls (.long (x + y) :: st)))) : W p e below s R n0 Q (T.setTop (mkF m pc Ls (.long y :: .long x :: st))) := by
  obtain ⟨locs, X, eT, N, hs0, hcl, hsl, hx, hZ, rfl, hml, hown, hnm, hret, hlk⟩ := X
  subst hp
  exact W.of (fun t k => XS.ladd X.here hx rfl hd rfl k) w
theorem w_isub (X : Sn Z n0 bs mx own nm ret p l e R s m args below meth c T h cells slots) {x y : Int32} (hd : decode bs pc = .ok (.isub, 1)) (hp : pc + 1 = pc')
    (w : W p e below s R n0 Q (T.setTop (mkF m pc' Ls (.int (x - y) :: st)))) : W p e below s R n0 Q (T.setTop (mkF m pc Ls (.int y :: .int x :: st))) := by
  obtain ⟨locs, X, eT, N, hs0, hcl, hsl, hx, hZ, rfl, hml, hown, hnm, hret, hlk⟩ := X
  subst hp
  exact W.of (fun t k => XS.isub X.here hx rfl hd rfl k) w
theorem w_lsub (X : Sn Z n0 bs mx own nm ret p l e R s m args below meth c T h cells slots) {x y : Int64} (hd : decode bs pc = .ok (.lsub, 1)) (hp : pc + 1 = pc')
    (w : W p e below s R n0 Q (T.setTop (mkF m pc' Ls (.long (x - y) :: st)))) : W p e below s R n0 Q (T.setTop (mkF m pc Ls (.long y :: .long x :: st))) := by
  obtain ⟨locs, X, eT, N, hs0, hcl, hsl, hx, hZ, rfl, hml, hown, hnm, hret, hlk⟩ := X
  subst hp
  exact W.of (fun t k => XS.lsub X.here hx rfl hd rfl k) w
theorem w_imul (X : Sn Z n0 bs mx own nm ret p l e R s m args below meth c T h cells slots) {x y : Int32} (hd : decode bs pc = .ok (.imul, 1)) (hp : pc + 1 = pc')
    (w : W p e below s R n0 Q (T.setTop (mkF m pc' Ls (.int (x * y) :: st)))) : W p e below s R n0 Q (T.setTop (mkF m pc Ls (.int y :: .int x :: st))) := by
  obtain ⟨locs, X, eT, N, hs0, hcl, hsl, hx, hZ, rfl, hml, hown, hnm, hret, hlk⟩ := X
  subst hp
  exact W.of (fun t k => XS.imul X.here hx rfl hd rfl k) w
theorem w_lmul (X : Sn Z n0 bs mx own nm ret p l e R s m args below meth c T h cells slots) {x y : Int64} (hd : decode bs pc = .ok (.lmul, 1)) (hp : pc + 1 = pc')
    (w : W p e below s R n0 Q (T.setTop (mkF m pc' Ls (.long (x * y) :: st)))) : W p e below s R n0 Q (T.setTop (mkF m pc Ls (.long y :: .long x :: st))) := by
  obtain ⟨locs, X, eT, N, hs0, hcl, hsl, hx, hZ, rfl, hml, hown, hnm, hret, hlk⟩ := X
  subst hp
  exact W.of (fun t k => XS.lmul X.here hx rfl hd rfl k) w
theorem w_iand (X : Sn Z n0 bs mx own nm ret p l e R s m args below meth c T h cells slots) {x y : Int32} (hd : decode bs pc = .ok (.iand, 1)) (hp : pc + 1 = pc')
    (w : W p e below s R n0 Q (T.setTop (mkF m pc' Ls (.int (x &&& y) :: st)))) : W p e below s R n0 Q (T.setTop (mkF m pc Ls (.int y :: .int x :: st))) := by
  obtain ⟨locs, X, eT, N, hs0, hcl, hsl, hx, hZ, rfl, hml, hown, hnm, hret, hlk⟩ := X
  subst hp
  exact W.of (fun t k => XS.iand X.here hx rfl hd rfl k) w
theorem w_land (X : Sn Z n0 bs mx own nm ret p l e R s m args below meth c T h cells slots) {x y : Int64} (hd : decode bs pc = .ok (.land, 1)) (hp : pc + 1 = pc')
    (w : W p e below s R n0 Q (T.setTop (mkF m pc' Ls (.long (x &&& y) :: st)))) : W p e below s R n0 Q (T.setTop (mkF m pc Ls (.long y :: .long x :: st))) := by
  obtain ⟨locs, X, eT, N, hs0, hcl, hsl, hx, hZ, rfl, hml, hown, hnm, hret, hlk⟩ := X
  subst hp
  exact W.of (fun t k => XS.land X.here hx rfl hd rfl k) w
theorem w_ior (X : Sn Z n0 bs mx own nm ret p l e R s m args below meth c T h cells slots) {x y : Int32} (hd : decode bs pc = .ok (.ior, 1)) (hp : pc + 1 = pc')
    (w : W p e below s R n0 Q (T.setTop (mkF m pc' Ls (.int (x ||| y) :: st)))) : W p e below s R n0 Q (T.setTop (mkF m pc Ls (.int y :: .int x :: st))) := by
  obtain ⟨locs, X, eT, N, hs0, hcl, hsl, hx, hZ, rfl, hml, hown, hnm, hret, hlk⟩ := X
  subst hp
  exact W.of (fun t k => XS.ior X.here hx rfl hd rfl k) w
theorem w_lor (X : Sn Z n0 bs mx own nm ret p l e R s m args below meth c T h cells slots) {x y : Int64} (hd : decode bs pc = .ok (.lor, 1)) (hp : pc + 1 = pc')
    (w : W p e below s R n0 Q (T.setTop (mkF m pc' Ls (.long (x ||| y) :: st)))) : W p e below s R n0 Q (T.setTop (mkF m pc Ls (.long y :: .long x :: st))) := by
  obtain ⟨locs, X, eT, N, hs0, hcl, hsl, hx, hZ, rfl, hml, hown, hnm, hret, hlk⟩ := X
  subst hp
  exact W.of (fun t k => XS.lor X.here hx rfl hd rfl k) w
theorem w_ixor (X : Sn Z n0 bs mx own nm ret p l e R s m args below meth c T h cells slots) {x y : Int32} (hd : decode bs pc = .ok (.ixor, 1)) (hp : pc + 1 = pc')
    (w : W p e below s R n0 Q (T.setTop (mkF m pc' Ls (.int (x ^^^ y) :: st)))) : W p e below s R n0 Q (T.setTop (mkF m pc Ls (.int y :: .int x :: st))) := by
  obtain ⟨locs, X, eT, N, hs0, hcl, hsl, hx, hZ, rfl, hml, hown, hnm, hret, hlk⟩ := X
  subst hp
  exact W.of (fun t k => XS.ixor X.here hx rfl hd rfl k) w
theorem w_lxor (X : Sn Z n0 bs mx own nm ret p l e R s m args below meth c T h cells slots) {x y : Int64} (hd : decode bs pc = .ok (.lxor, 1)) (hp : pc + 1 = pc')
    (w : W p e below s R n0 Q (T.setTop (mkF m pc' Ls (.long (x ^^^ y) :: st)))) : W p e below s R n0 Q (T.setTop (mkF m pc Ls (.long y :: .long x :: st))) := by
  obtain ⟨locs, X, eT, N, hs0, hcl, hsl, hx, hZ, rfl, hml, hown, hnm, hret, hlk⟩ := X
  subst hp
  exact W.of (fun t k => XS.lxor X.here hx rfl hd rfl k) w
theorem w_ishl (X : Sn Z n0 bs mx own nm ret p l e R s m args below meth c T h cells slots) {x y : Int32} (hd : decode bs pc = .ok (.ishl, 1)) (hp : pc + 1 = pc')
    (w : W p e below s R n0 Q (T.setTop (mkF m pc' Ls (.int (isl x y) :: st)))) : W p e below s R n0 Q (T.setTop (mkF m pc Ls (.int y :: .int x :: st))) := by
  obtain ⟨locs, X, eT, N, hs0, hcl, hsl, hx, hZ, rfl, hml, hown, hnm, hret, hlk⟩ := X
  subst hp
  exact W.of (fun t k => XS.ishl X.here hx rfl hd rfl k) w
theorem w_ishr (X : Sn Z n0 bs mx own nm ret p l e R s m args below meth c T h cells slots) {x y : Int32} (hd : decode bs pc = .ok (.ishr, 1)) (hp : pc + 1 = pc')
    (w : W p e below s R n0 Q (T.setTop (mkF m pc' Ls (.int (isr x y) :: st)))) : W p e below s R n0 Q (T.setTop (mkF m pc Ls (.int y :: .int x :: st))) := by
  obtain ⟨locs, X, eT, N, hs0, hcl, hsl, hx, hZ, rfl, hml, hown, hnm, hret, hlk⟩ := X
  subst hp
  exact W.of (fun t k => XS.ishr X.here hx rfl hd rfl k) w
theorem w_iushr (X : Sn Z n0 bs mx own nm ret p l e R s m args below meth c T h cells slots) {x y : Int32} (hd : decode bs pc = .ok (.iushr, 1)) (hp : pc + 1 = pc')
    (w : W p e below s R n0 Q (T.setTop (mkF m pc' Ls (.int (ius x y) :: st)))) : W p e below s R n0 Q (T.setTop (mkF m pc Ls (.int y :: .int x :: st))) := by
  obtain ⟨locs, X, eT, N, hs0, hcl, hsl, hx, hZ, rfl, hml, hown, hnm, hret, hlk⟩ := X
  subst hp
  exact W.of (fun t k => XS.iushr X.here hx rfl hd rfl k) w
theorem w_lshl (X : Sn Z n0 bs mx own nm ret p l e R s m args below meth c T h cells slots) {x : Int64} {y : Int32} (hd : decode bs pc = .ok (.lshl, 1)) (hp : pc + 1 = pc')
    (w : W p e below s R n0 Q (T.setTop (mkF m pc' Ls (.long (lsl x y) :: st)))) : W p e below s R n0 Q (T.setTop (mkF m pc Ls (.int y :: .long x :: st))) := by
  obtain ⟨locs, X, eT, N, hs0, hcl, hsl, hx, hZ, rfl, hml, hown, hnm, hret, hlk⟩ := X
  subst hp
  exact W.of (fun t k => XS.lshl X.here hx rfl hd rfl k) w
theorem w_lshr (X : Sn Z n0 bs mx own nm ret p l e R s m args below meth c T h cells slots) {x : Int64} {y : Int32} (hd : decode bs pc = .ok (.lshr, 1)) (hp : pc + 1 = pc')
    (w : W p e below s R n0 Q (T.setTop (mkF m pc' Ls (.long (lsr x y) :: st)))) : W p e below s R n0 Q (T.setTop (mkF m pc Ls (.int y :: .long x :: st))) := by
  obtain ⟨locs, X, eT, N, hs0, hcl, hsl, hx, hZ, rfl, hml, hown, hnm, hret, hlk⟩ := X
  subst hp
  exact W.of (fun t k => XS.lshr X.here hx rfl hd rfl k) w
theorem w_lushr (X : Sn Z n0 bs mx own nm ret p l e R s m args below meth c T h cells slots) {x : Int64} {y : Int32} (hd : decode bs pc = .ok (.lushr, 1)) (hp : pc + 1 = pc')
    (w : W p e below s R n0 Q (T.setTop (mkF m pc' Ls (.long (lus x y) :: st)))) : W p e below s R n0 Q (T.setTop (mkF m pc Ls (.int y :: .long x :: st))) := by
  obtain ⟨locs, X, eT, N, hs0, hcl, hsl, hx, hZ, rfl, hml, hown, hnm, hret, hlk⟩ := X
  subst hp
  exact W.of (fun t k => XS.lushr X.here hx rfl hd rfl k) w
theorem w_idiv (X : Sn Z n0 bs mx own nm ret p l e R s m args below meth c T h cells slots) {x y : Int32} (hd : decode bs pc = .ok (.idiv, 1)) (hy : y ≠ 0) (hp : pc + 1 = pc')
    (w : W p e below s R n0 Q (T.setTop (mkF m pc' Ls (.int (x / y) :: st)))) : W p e below s R n0 Q (T.setTop (mkF m pc Ls (.int y :: .int x :: st))) := by
  obtain ⟨locs, X, eT, N, hs0, hcl, hsl, hx, hZ, rfl, hml, hown, hnm, hret, hlk⟩ := X
  subst hp
  exact W.of (fun t k => XS.idiv X.here hx rfl hd rfl hy k) w
theorem w_irem (X : Sn Z n0 bs mx own nm ret p l e R s m args below meth c T h cells slots) {x y : Int32} (hd : decode bs pc = .ok (.irem, 1)) (hy : y ≠ 0) (hp : pc + 1 = pc')
    (w : W p e below s R n0 Q (T.setTop (mkF m pc' Ls (.int (x % y) :: st)))) : W p e below s R n0 Q (T.setTop (mkF m pc Ls (.int y :: .int x :: st))) := by
  obtain ⟨locs, X, eT, N, hs0, hcl, hsl, hx, hZ, rfl, hml, hown, hnm, hret, hlk⟩ := X
  subst hp
  exact W.of (fun t k => iremM X hx rfl hd rfl hy k) w
theorem w_ineg (X : Sn Z n0 bs mx own nm ret p l e R s m args below meth c T h cells slots) {x : Int32} (hd : decode bs pc = .ok (.ineg, 1)) (hp : pc + 1 = pc')
    (w : W p e below s R n0 Q (T.setTop (mkF m pc' Ls (.int (-x) :: st)))) : W p e below s R n0 Q (T.setTop (mkF m pc Ls (.int x :: st))) := by
  obtain ⟨locs, X, eT, N, hs0, hcl, hsl, hx, hZ, rfl, hml, hown, hnm, hret, hlk⟩ := X
  subst hp
  exact W.of (fun t k => XS.ineg X.here hx rfl hd rfl k) w
theorem w_lneg (X : Sn Z n0 bs mx own nm ret p l e R s m args below meth c T h cells slots) {x : Int64} (hd : decode bs pc = .ok (.lneg, 1)) (hp : pc + 1 = pc')
    (w : W p e below s R n0 Q (T.setTop (mkF m pc' Ls (.long (-x) :: st)))) : W p e below s R n0 Q (T.setTop (mkF m pc Ls (.long x :: st))) := by
  obtain ⟨locs, X, eT, N, hs0, hcl, hsl, hx, hZ, rfl, hml, hown, hnm, hret, hlk⟩ := X
  subst hp
  exact W.of (fun t k => XS.lneg X.here hx rfl hd rfl k) w
theorem w_i2l (X : Sn Z n0 bs mx own nm ret p l e R s m args below meth c T h cells slots) {x : Int32} (hd : decode bs pc = .ok (.i2l, 1)) (hp : pc + 1 = pc')
    (w : W p e below s R n0 Q (T.setTop (mkF m pc' Ls (.long x.toInt64 :: st)))) : W p e below s R n0 Q (T.setTop (mkF m pc Ls (.int x :: st))) := by
  obtain ⟨locs, X, eT, N, hs0, hcl, hsl, hx, hZ, rfl, hml, hown, hnm, hret, hlk⟩ := X
  subst hp
  exact W.of (fun t k => XS.i2l X.here hx rfl hd rfl k) w
theorem w_l2i (X : Sn Z n0 bs mx own nm ret p l e R s m args below meth c T h cells slots) {x : Int64} (hd : decode bs pc = .ok (.l2i, 1)) (hp : pc + 1 = pc')
    (w : W p e below s R n0 Q (T.setTop (mkF m pc' Ls (.int x.toInt32 :: st)))) : W p e below s R n0 Q (T.setTop (mkF m pc Ls (.long x :: st))) := by
  obtain ⟨locs, X, eT, N, hs0, hcl, hsl, hx, hZ, rfl, hml, hown, hnm, hret, hlk⟩ := X
  subst hp
  exact W.of (fun t k => XS.l2i X.here hx rfl hd rfl k) w
theorem w_i2b (X : Sn Z n0 bs mx own nm ret p l e R s m args below meth c T h cells slots) {x : Int32} (hd : decode bs pc = .ok (.i2b, 1)) (hp : pc + 1 = pc')
    (w : W p e below s R n0 Q (T.setTop (mkF m pc' Ls (.int x.toInt8.toInt32 :: st)))) : W p e below s R n0 Q (T.setTop (mkF m pc Ls (.int x :: st))) := by
  obtain ⟨locs, X, eT, N, hs0, hcl, hsl, hx, hZ, rfl, hml, hown, hnm, hret, hlk⟩ := X
  subst hp
  exact W.of (fun t k => XS.i2b X.here hx rfl hd rfl k) w
theorem w_i2s (X : Sn Z n0 bs mx own nm ret p l e R s m args below meth c T h cells slots) {x : Int32} (hd : decode bs pc = .ok (.i2s, 1)) (hp : pc + 1 = pc')
    (w : W p e below s R n0 Q (T.setTop (mkF m pc' Ls (.int x.toInt16.toInt32 :: st)))) : W p e below s R n0 Q (T.setTop (mkF m pc Ls (.int x :: st))) := by
  obtain ⟨locs, X, eT, N, hs0, hcl, hsl, hx, hZ, rfl, hml, hown, hnm, hret, hlk⟩ := X
  subst hp
  exact W.of (fun t k => XS.i2s X.here hx rfl hd rfl k) w
theorem w_dup (X : Sn Z n0 bs mx own nm ret p l e R s m args below meth c T h cells slots) {v : Value} (hd : decode bs pc = .ok (.dup, 1)) (hv : v.category = 1) (hp : pc + 1 = pc')
    (w : W p e below s R n0 Q (T.setTop (mkF m pc' Ls (v :: v :: st)))) : W p e below s R n0 Q (T.setTop (mkF m pc Ls (v :: st))) := by
  obtain ⟨locs, X, eT, N, hs0, hcl, hsl, hx, hZ, rfl, hml, hown, hnm, hret, hlk⟩ := X
  subst hp
  exact W.of (fun t k => XS.dup X.here hx rfl hd rfl hv k) w
theorem w_dup2 (X : Sn Z n0 bs mx own nm ret p l e R s m args below meth c T h cells slots) {v u : Value} (hd : decode bs pc = .ok (.dup2, 1)) (hv : v.category = 1) (hu : u.category = 1) (hp : pc + 1 = pc')
    (w : W p e below s R n0 Q (T.setTop (mkF m pc' Ls (v :: u :: v :: u :: st)))) : W p e below s R n0 Q (T.setTop (mkF m pc Ls (v :: u :: st))) := by
  obtain ⟨locs, X, eT, N, hs0, hcl, hsl, hx, hZ, rfl, hml, hown, hnm, hret, hlk⟩ := X
  subst hp
  exact W.of (fun t k => XT.dup2 X.here hx rfl hd rfl hv hu k) w
theorem w_pop (X : Sn Z n0 bs mx own nm ret p l e R s m args below meth c T h cells slots) {v : Value} (hd : decode bs pc = .ok (.pop, 1)) (hv : v.category = 1) (hp : pc + 1 = pc')
    (w : W p e below s R n0 Q (T.setTop (mkF m pc' Ls (st)))) : W p e below s R n0 Q (T.setTop (mkF m pc Ls (v :: st))) := by
  obtain ⟨locs, X, eT, N, hs0, hcl, hsl, hx, hZ, rfl, hml, hown, hnm, hret, hlk⟩ := X
  subst hp
  exact W.of (fun t k => XS.pop X.here hx rfl hd rfl hv k) w
theorem w_iinc (X : Sn Z n0 bs mx own nm ret p l e R s m args below meth c T h cells slots) {x z : Int32} (hd : decode bs pc = .ok (.iinc k o, 3)) (hl : Ls[k]? = some (.val (.int x))) (hz : x + Int32.ofInt o = z) (hl' : storeLocals Ls k (.int z) = some L') (hp : pc + 3 = pc')
    (w : W p e below s R n0 Q (T.setTop (mkF m pc' L' (st)))) : W p e below s R n0 Q (T.setTop (mkF m pc Ls (st))) := by
  obtain ⟨locs, X, eT, N, hs0, hcl, hsl, hx, hZ, rfl, hml, hown, hnm, hret, hlk⟩ := X
  subst hp hz
  exact W.of (fun t k => XS.iinc X.here hx rfl hd hl hl' k) w
theorem w_goto (X : Sn Z n0 bs mx own nm ret p l e R s m args below meth c T h cells slots) (hd : decode bs pc = .ok (.goto o, 3)) (hp : 0 ≤ (pc : Int) + o ∧ ((pc : Int) + o).toNat = pc')
    (w : W p e below s R n0 Q (T.setTop (mkF m pc' Ls (st)))) : W p e below s R n0 Q (T.setTop (mkF m pc Ls (st))) := by
  obtain ⟨locs, X, eT, N, hs0, hcl, hsl, hx, hZ, rfl, hml, hown, hnm, hret, hlk⟩ := X
  exact W.of (fun t k => XS.goto X.here hx rfl rfl hd hp.1 hp.2 k) w
theorem hI_eq {x y : Int32} : if_icmp.holds .eq x y = decide (x = y) := by by_cases q : x = y <;> simp [q, (teq · |>.1), (feq · |>.1)]
theorem hI_ne {x y : Int32} : if_icmp.holds .ne x y = decide (x ≠ y) := by by_cases q : x = y <;> simp [q, (teq · |>.2), (feq · |>.2)]
theorem hI_lt {x y : Int32} : if_icmp.holds .lt x y = decide (x.toInt < y.toInt) := by
  by_cases q : x < y
  · rw [(tlt q).1]; exact (decide_eq_true (Int32.lt_iff_toInt_lt.mp q)).symm
  · rw [(flt q).1]; exact (decide_eq_false fun z => q (Int32.lt_iff_toInt_lt.mpr z)).symm
theorem hI_ge {x y : Int32} : if_icmp.holds .ge x y = decide (x.toInt ≥ y.toInt) := by
  by_cases q : x < y
  · rw [(tlt q).2.1]; exact (decide_eq_false fun z => by have := Int32.lt_iff_toInt_lt.mp q; omega).symm
  · rw [(flt q).2.1]; exact (decide_eq_true (by rw [Int32.lt_iff_toInt_lt] at q; omega)).symm
theorem hI_gt {x y : Int32} : if_icmp.holds .gt x y = decide (x.toInt > y.toInt) := by
  by_cases q : y < x
  · rw [(tlt q).2.2.1]; exact (decide_eq_true (Int32.lt_iff_toInt_lt.mp q)).symm
  · rw [(flt q).2.2.1]; exact (decide_eq_false fun z => q (Int32.lt_iff_toInt_lt.mpr z)).symm
theorem hI_le {x y : Int32} : if_icmp.holds .le x y = decide (x.toInt ≤ y.toInt) := by
  by_cases q : y < x
  · rw [(tlt q).2.2.2]; exact (decide_eq_false fun z => by have := Int32.lt_iff_toInt_lt.mp q; omega).symm
  · rw [(flt q).2.2.2]; exact (decide_eq_true (by rw [Int32.lt_iff_toInt_lt] at q; omega)).symm
theorem w_icmp_eq (X : Sn Z n0 bs mx own nm ret p l e R s m args below meth c T h cells slots) {x y : Int32} (hd : decode bs pc = .ok (.if_icmp .eq o, 3)) (hp : 0 ≤ (pc : Int) + o ∧ ((pc : Int) + o).toNat = pc1 ∧ pc + 3 = pc2)
    (yes : x = y → W p e below s R n0 Q (T.setTop (mkF m pc1 Ls (st)))) (no : x ≠ y → W p e below s R n0 Q (T.setTop (mkF m pc2 Ls (st)))) : W p e below s R n0 Q (T.setTop (mkF m pc Ls (.int y :: .int x :: st))) := by
  obtain ⟨locs, X, eT, N, hs0, hcl, hsl, hx, hZ, rfl, hml, hown, hnm, hret, hlk⟩ := X
  by_cases z : x = y
  · exact W.of (fun t k => XS.icmpYes X.here hx rfl rfl hd rfl (hI_eq.trans (decide_eq_true z)) hp.1 hp.2.1 k) (yes z)
  · have w := no (z)
    rw [← hp.2.2] at w
    exact W.of (fun t k => XS.icmpNo X.here hx rfl hd rfl (hI_eq.trans (decide_eq_false z)) k) w
theorem w_if_eq (X : Sn Z n0 bs mx own nm ret p l e R s m args below meth c T h cells slots) {x : Int32} (hd : decode bs pc = .ok (.ifCond .eq o, 3)) (hp : 0 ≤ (pc : Int) + o ∧ ((pc : Int) + o).toNat = pc1 ∧ pc + 3 = pc2)
    (yes : x = 0 → W p e below s R n0 Q (T.setTop (mkF m pc1 Ls (st)))) (no : x ≠ 0 → W p e below s R n0 Q (T.setTop (mkF m pc2 Ls (st)))) : W p e below s R n0 Q (T.setTop (mkF m pc Ls (.int x :: st))) := by
  obtain ⟨locs, X, eT, N, hs0, hcl, hsl, hx, hZ, rfl, hml, hown, hnm, hret, hlk⟩ := X
  have hq : ifCond.holds .eq x = decide (x = 0) := (if0 _ _).trans hI_eq
  by_cases z : x = 0
  · exact W.of (fun t k => XS.ifYes X.here hx rfl rfl hd rfl (hq.trans (decide_eq_true z)) hp.1 hp.2.1 k) (yes z)
  · have w := no (z)
    rw [← hp.2.2] at w
    exact W.of (fun t k => XS.ifNo X.here hx rfl hd rfl (hq.trans (decide_eq_false z)) k) w
theorem w_icmp_ne (X : Sn Z n0 bs mx own nm ret p l e R s m args below meth c T h cells slots) {x y : Int32} (hd : decode bs pc = .ok (.if_icmp .ne o, 3)) (hp : 0 ≤ (pc : Int) + o ∧ ((pc : Int) + o).toNat = pc1 ∧ pc + 3 = pc2)
    (yes : x ≠ y → W p e below s R n0 Q (T.setTop (mkF m pc1 Ls (st)))) (no : x = y → W p e below s R n0 Q (T.setTop (mkF m pc2 Ls (st)))) : W p e below s R n0 Q (T.setTop (mkF m pc Ls (.int y :: .int x :: st))) := by
  obtain ⟨locs, X, eT, N, hs0, hcl, hsl, hx, hZ, rfl, hml, hown, hnm, hret, hlk⟩ := X
  by_cases z : x ≠ y
  · exact W.of (fun t k => XS.icmpYes X.here hx rfl rfl hd rfl (hI_ne.trans (decide_eq_true z)) hp.1 hp.2.1 k) (yes z)
  · have w := no (Classical.byContradiction fun u => z u)
    rw [← hp.2.2] at w
    exact W.of (fun t k => XS.icmpNo X.here hx rfl hd rfl (hI_ne.trans (decide_eq_false z)) k) w
theorem w_if_ne (X : Sn Z n0 bs mx own nm ret p l e R s m args below meth c T h cells slots) {x : Int32} (hd : decode bs pc = .ok (.ifCond .ne o, 3)) (hp : 0 ≤ (pc : Int) + o ∧ ((pc : Int) + o).toNat = pc1 ∧ pc + 3 = pc2)
    (yes : x ≠ 0 → W p e below s R n0 Q (T.setTop (mkF m pc1 Ls (st)))) (no : x = 0 → W p e below s R n0 Q (T.setTop (mkF m pc2 Ls (st)))) : W p e below s R n0 Q (T.setTop (mkF m pc Ls (.int x :: st))) := by
  obtain ⟨locs, X, eT, N, hs0, hcl, hsl, hx, hZ, rfl, hml, hown, hnm, hret, hlk⟩ := X
  have hq : ifCond.holds .ne x = decide (x ≠ 0) := (if0 _ _).trans hI_ne
  by_cases z : x ≠ 0
  · exact W.of (fun t k => XS.ifYes X.here hx rfl rfl hd rfl (hq.trans (decide_eq_true z)) hp.1 hp.2.1 k) (yes z)
  · have w := no (Classical.byContradiction fun u => z u)
    rw [← hp.2.2] at w
    exact W.of (fun t k => XS.ifNo X.here hx rfl hd rfl (hq.trans (decide_eq_false z)) k) w
theorem w_icmp_lt (X : Sn Z n0 bs mx own nm ret p l e R s m args below meth c T h cells slots) {x y : Int32} (hd : decode bs pc = .ok (.if_icmp .lt o, 3)) (hp : 0 ≤ (pc : Int) + o ∧ ((pc : Int) + o).toNat = pc1 ∧ pc + 3 = pc2)
    (yes : x.toInt < y.toInt → W p e below s R n0 Q (T.setTop (mkF m pc1 Ls (st)))) (no : x.toInt ≥ y.toInt → W p e below s R n0 Q (T.setTop (mkF m pc2 Ls (st)))) : W p e below s R n0 Q (T.setTop (mkF m pc Ls (.int y :: .int x :: st))) := by
  obtain ⟨locs, X, eT, N, hs0, hcl, hsl, hx, hZ, rfl, hml, hown, hnm, hret, hlk⟩ := X
  by_cases z : x.toInt < y.toInt
  · exact W.of (fun t k => XS.icmpYes X.here hx rfl rfl hd rfl (hI_lt.trans (decide_eq_true z)) hp.1 hp.2.1 k) (yes z)
  · have w := no (Int.not_lt.mp z)
    rw [← hp.2.2] at w
    exact W.of (fun t k => XS.icmpNo X.here hx rfl hd rfl (hI_lt.trans (decide_eq_false z)) k) w
theorem w_if_lt (X : Sn Z n0 bs mx own nm ret p l e R s m args below meth c T h cells slots) {x : Int32} (hd : decode bs pc = .ok (.ifCond .lt o, 3)) (hp : 0 ≤ (pc : Int) + o ∧ ((pc : Int) + o).toNat = pc1 ∧ pc + 3 = pc2)
    (yes : x.toInt < 0 → W p e below s R n0 Q (T.setTop (mkF m pc1 Ls (st)))) (no : x.toInt ≥ 0 → W p e below s R n0 Q (T.setTop (mkF m pc2 Ls (st)))) : W p e below s R n0 Q (T.setTop (mkF m pc Ls (.int x :: st))) := by
  obtain ⟨locs, X, eT, N, hs0, hcl, hsl, hx, hZ, rfl, hml, hown, hnm, hret, hlk⟩ := X
  have hq : ifCond.holds .lt x = decide (x.toInt < 0) := (if0 _ _).trans hI_lt
  by_cases z : x.toInt < 0
  · exact W.of (fun t k => XS.ifYes X.here hx rfl rfl hd rfl (hq.trans (decide_eq_true z)) hp.1 hp.2.1 k) (yes z)
  · have w := no (Int.not_lt.mp z)
    rw [← hp.2.2] at w
    exact W.of (fun t k => XS.ifNo X.here hx rfl hd rfl (hq.trans (decide_eq_false z)) k) w
theorem w_icmp_ge (X : Sn Z n0 bs mx own nm ret p l e R s m args below meth c T h cells slots) {x y : Int32} (hd : decode bs pc = .ok (.if_icmp .ge o, 3)) (hp : 0 ≤ (pc : Int) + o ∧ ((pc : Int) + o).toNat = pc1 ∧ pc + 3 = pc2)
    (yes : x.toInt ≥ y.toInt → W p e below s R n0 Q (T.setTop (mkF m pc1 Ls (st)))) (no : x.toInt < y.toInt → W p e below s R n0 Q (T.setTop (mkF m pc2 Ls (st)))) : W p e below s R n0 Q (T.setTop (mkF m pc Ls (.int y :: .int x :: st))) := by
  obtain ⟨locs, X, eT, N, hs0, hcl, hsl, hx, hZ, rfl, hml, hown, hnm, hret, hlk⟩ := X
  by_cases z : x.toInt ≥ y.toInt
  · exact W.of (fun t k => XS.icmpYes X.here hx rfl rfl hd rfl (hI_ge.trans (decide_eq_true z)) hp.1 hp.2.1 k) (yes z)
  · have w := no (Int.not_le.mp z)
    rw [← hp.2.2] at w
    exact W.of (fun t k => XS.icmpNo X.here hx rfl hd rfl (hI_ge.trans (decide_eq_false z)) k) w
theorem w_if_ge (X : Sn Z n0 bs mx own nm ret p l e R s m args below meth c T h cells slots) {x : Int32} (hd : decode bs pc = .ok (.ifCond .ge o, 3)) (hp : 0 ≤ (pc : Int) + o ∧ ((pc : Int) + o).toNat = pc1 ∧ pc + 3 = pc2)
    (yes : x.toInt ≥ 0 → W p e below s R n0 Q (T.setTop (mkF m pc1 Ls (st)))) (no : x.toInt < 0 → W p e below s R n0 Q (T.setTop (mkF m pc2 Ls (st)))) : W p e below s R n0 Q (T.setTop (mkF m pc Ls (.int x :: st))) := by
  obtain ⟨locs, X, eT, N, hs0, hcl, hsl, hx, hZ, rfl, hml, hown, hnm, hret, hlk⟩ := X
  have hq : ifCond.holds .ge x = decide (x.toInt ≥ 0) := (if0 _ _).trans hI_ge
  by_cases z : x.toInt ≥ 0
  · exact W.of (fun t k => XS.ifYes X.here hx rfl rfl hd rfl (hq.trans (decide_eq_true z)) hp.1 hp.2.1 k) (yes z)
  · have w := no (Int.not_le.mp z)
    rw [← hp.2.2] at w
    exact W.of (fun t k => XS.ifNo X.here hx rfl hd rfl (hq.trans (decide_eq_false z)) k) w
theorem w_icmp_gt (X : Sn Z n0 bs mx own nm ret p l e R s m args below meth c T h cells slots) {x y : Int32} (hd : decode bs pc = .ok (.if_icmp .gt o, 3)) (hp : 0 ≤ (pc : Int) + o ∧ ((pc : Int) + o).toNat = pc1 ∧ pc + 3 = pc2)
    (yes : x.toInt > y.toInt → W p e below s R n0 Q (T.setTop (mkF m pc1 Ls (st)))) (no : x.toInt ≤ y.toInt → W p e below s R n0 Q (T.setTop (mkF m pc2 Ls (st)))) : W p e below s R n0 Q (T.setTop (mkF m pc Ls (.int y :: .int x :: st))) := by
  obtain ⟨locs, X, eT, N, hs0, hcl, hsl, hx, hZ, rfl, hml, hown, hnm, hret, hlk⟩ := X
  by_cases z : x.toInt > y.toInt
  · exact W.of (fun t k => XS.icmpYes X.here hx rfl rfl hd rfl (hI_gt.trans (decide_eq_true z)) hp.1 hp.2.1 k) (yes z)
  · have w := no (Int.not_lt.mp z)
    rw [← hp.2.2] at w
    exact W.of (fun t k => XS.icmpNo X.here hx rfl hd rfl (hI_gt.trans (decide_eq_false z)) k) w
theorem w_if_gt (X : Sn Z n0 bs mx own nm ret p l e R s m args below meth c T h cells slots) {x : Int32} (hd : decode bs pc = .ok (.ifCond .gt o, 3)) (hp : 0 ≤ (pc : Int) + o ∧ ((pc : Int) + o).toNat = pc1 ∧ pc + 3 = pc2)
    (yes : x.toInt > 0 → W p e below s R n0 Q (T.setTop (mkF m pc1 Ls (st)))) (no : x.toInt ≤ 0 → W p e below s R n0 Q (T.setTop (mkF m pc2 Ls (st)))) : W p e below s R n0 Q (T.setTop (mkF m pc Ls (.int x :: st))) := by
  obtain ⟨locs, X, eT, N, hs0, hcl, hsl, hx, hZ, rfl, hml, hown, hnm, hret, hlk⟩ := X
  have hq : ifCond.holds .gt x = decide (x.toInt > 0) := (if0 _ _).trans hI_gt
  by_cases z : x.toInt > 0
  · exact W.of (fun t k => XS.ifYes X.here hx rfl rfl hd rfl (hq.trans (decide_eq_true z)) hp.1 hp.2.1 k) (yes z)
  · have w := no (Int.not_lt.mp z)
    rw [← hp.2.2] at w
    exact W.of (fun t k => XS.ifNo X.here hx rfl hd rfl (hq.trans (decide_eq_false z)) k) w
theorem w_icmp_le (X : Sn Z n0 bs mx own nm ret p l e R s m args below meth c T h cells slots) {x y : Int32} (hd : decode bs pc = .ok (.if_icmp .le o, 3)) (hp : 0 ≤ (pc : Int) + o ∧ ((pc : Int) + o).toNat = pc1 ∧ pc + 3 = pc2)
    (yes : x.toInt ≤ y.toInt → W p e below s R n0 Q (T.setTop (mkF m pc1 Ls (st)))) (no : x.toInt > y.toInt → W p e below s R n0 Q (T.setTop (mkF m pc2 Ls (st)))) : W p e below s R n0 Q (T.setTop (mkF m pc Ls (.int y :: .int x :: st))) := by
  obtain ⟨locs, X, eT, N, hs0, hcl, hsl, hx, hZ, rfl, hml, hown, hnm, hret, hlk⟩ := X
  by_cases z : x.toInt ≤ y.toInt
  · exact W.of (fun t k => XS.icmpYes X.here hx rfl rfl hd rfl (hI_le.trans (decide_eq_true z)) hp.1 hp.2.1 k) (yes z)
  · have w := no (Int.not_le.mp z)
    rw [← hp.2.2] at w
    exact W.of (fun t k => XS.icmpNo X.here hx rfl hd rfl (hI_le.trans (decide_eq_false z)) k) w
theorem w_if_le (X : Sn Z n0 bs mx own nm ret p l e R s m args below meth c T h cells slots) {x : Int32} (hd : decode bs pc = .ok (.ifCond .le o, 3)) (hp : 0 ≤ (pc : Int) + o ∧ ((pc : Int) + o).toNat = pc1 ∧ pc + 3 = pc2)
    (yes : x.toInt ≤ 0 → W p e below s R n0 Q (T.setTop (mkF m pc1 Ls (st)))) (no : x.toInt > 0 → W p e below s R n0 Q (T.setTop (mkF m pc2 Ls (st)))) : W p e below s R n0 Q (T.setTop (mkF m pc Ls (.int x :: st))) := by
  obtain ⟨locs, X, eT, N, hs0, hcl, hsl, hx, hZ, rfl, hml, hown, hnm, hret, hlk⟩ := X
  have hq : ifCond.holds .le x = decide (x.toInt ≤ 0) := (if0 _ _).trans hI_le
  by_cases z : x.toInt ≤ 0
  · exact W.of (fun t k => XS.ifYes X.here hx rfl rfl hd rfl (hq.trans (decide_eq_true z)) hp.1 hp.2.1 k) (yes z)
  · have w := no (Int.not_le.mp z)
    rw [← hp.2.2] at w
    exact W.of (fun t k => XS.ifNo X.here hx rfl hd rfl (hq.trans (decide_eq_false z)) k) w
theorem hL {x y : Int64} : (if x > y then (1 : Int32) else if x = y then 0 else -1).toInt = if x.toInt > y.toInt then 1 else if x = y then 0 else -1 := by
  by_cases q : x > y
  · have q' : x.toInt > y.toInt := Int64.lt_iff_toInt_lt.mp q
    rw [if_pos q, if_pos q']; rfl
  · have q' : ¬ x.toInt > y.toInt := fun z => q (Int64.lt_iff_toInt_lt.mpr z)
    rw [if_neg q, if_neg q']
    by_cases r : x = y
    · rw [if_pos r, if_pos r]; rfl
    · rw [if_neg r, if_neg r]; rfl
theorem hL2 {x y : Int64} : ((if x > y then (1 : Int32) else if x = y then 0 else -1).toInt = 1 ∧ x.toInt > y.toInt) ∨ ((if x > y then (1 : Int32) else if x = y then 0 else -1) = 0 ∧ x = y ∧ x.toInt = y.toInt) ∨ ((if x > y then (1 : Int32) else if x = y then 0 else -1).toInt = -1 ∧ x.toInt < y.toInt) := by
  by_cases q : x.toInt > y.toInt
  · left; rw [hL, if_pos q]; exact ⟨rfl, q⟩
  · by_cases r : x = y
    · right; left; subst r; exact ⟨by rw [if_neg (fun z => q (Int64.lt_iff_toInt_lt.mp z)), if_pos rfl], rfl, rfl⟩
    · right; right; rw [hL, if_neg q, if_neg r]; refine ⟨rfl, ?_⟩
      have : x.toInt ≠ y.toInt := fun z => r (Int64.toInt_inj.mp z)
      omega
theorem w_lcif_eq (X : Sn Z n0 bs mx own nm ret p l e R s m args below meth c T h cells slots) {x y : Int64} (hd : decode bs pc = .ok (.lcmp, 1)) (hd2 : decode bs pc' = .ok (.ifCond .eq o, 3)) (hp : pc + 1 = pc' ∧ 0 ≤ (pc' : Int) + o ∧ ((pc' : Int) + o).toNat = pc1 ∧ pc' + 3 = pc2)
    (yes : x = y → W p e below s R n0 Q (T.setTop (mkF m pc1 Ls (st)))) (no : x ≠ y → W p e below s R n0 Q (T.setTop (mkF m pc2 Ls (st)))) : W p e below s R n0 Q (T.setTop (mkF m pc Ls (.long y :: .long x :: st))) := by
  have X' := X
  obtain ⟨locs, X, eT, N, hs0, hcl, hsl, hx, hZ, rfl, hml, hown, hnm, hret, hlk⟩ := X
  refine W.of (fun t k => XS.lcmp X.here hx rfl hd rfl k) ?_
  have e1 : pc + 1 = pc' := hp.1
  show W p e below s R n0 Q (T.setTop (mkF m (pc + 1) Ls (.int (if x > y then 1 else if x = y then 0 else -1) :: st)))
  rw [e1]
  refine w_if_eq X' hd2 hp.2 (fun z => yes ?_) (fun z => no ?_)
  all_goals rcases hL2 (x := x) (y := y) with ⟨q1, q2⟩ | ⟨q1, rfl, -⟩ | ⟨q1, q2⟩
  all_goals first | rfl | exact Int.le_refl _ | (exfalso; rw [z] at q1; revert q1; decide) | (exfalso; exact z q1) | (exfalso; rw [q1] at z; revert z; decide) | (intro u; subst u; exact absurd q2 (Int.lt_irrefl _)) | omega
theorem w_lcif_ne (X : Sn Z n0 bs mx own nm ret p l e R s m args below meth c T h cells slots) {x y : Int64} (hd : decode bs pc = .ok (.lcmp, 1)) (hd2 : decode bs pc' = .ok (.ifCond .ne o, 3)) (hp : pc + 1 = pc' ∧ 0 ≤ (pc' : Int) + o ∧ ((pc' : Int) + o).toNat = pc1 ∧ pc' + 3 = pc2)
    (yes : x ≠ y → W p e below s R n0 Q (T.setTop (mkF m pc1 Ls (st)))) (no : x = y → W p e below s R n0 Q (T.setTop (mkF m pc2 Ls (st)))) : W p e below s R n0 Q (T.setTop (mkF m pc Ls (.long y :: .long x :: st))) := by
  have X' := X
  obtain ⟨locs, X, eT, N, hs0, hcl, hsl, hx, hZ, rfl, hml, hown, hnm, hret, hlk⟩ := X
  refine W.of (fun t k => XS.lcmp X.here hx rfl hd rfl k) ?_
  have e1 : pc + 1 = pc' := hp.1
  show W p e below s R n0 Q (T.setTop (mkF m (pc + 1) Ls (.int (if x > y then 1 else if x = y then 0 else -1) :: st)))
  rw [e1]
  refine w_if_ne X' hd2 hp.2 (fun z => yes ?_) (fun z => no ?_)
  all_goals rcases hL2 (x := x) (y := y) with ⟨q1, q2⟩ | ⟨q1, rfl, -⟩ | ⟨q1, q2⟩
  all_goals first | rfl | exact Int.le_refl _ | (exfalso; rw [z] at q1; revert q1; decide) | (exfalso; exact z q1) | (exfalso; rw [q1] at z; revert z; decide) | (intro u; subst u; exact absurd q2 (Int.lt_irrefl _)) | omega
theorem w_lcif_lt (X : Sn Z n0 bs mx own nm ret p l e R s m args below meth c T h cells slots) {x y : Int64} (hd : decode bs pc = .ok (.lcmp, 1)) (hd2 : decode bs pc' = .ok (.ifCond .lt o, 3)) (hp : pc + 1 = pc' ∧ 0 ≤ (pc' : Int) + o ∧ ((pc' : Int) + o).toNat = pc1 ∧ pc' + 3 = pc2)
    (yes : x.toInt < y.toInt → W p e below s R n0 Q (T.setTop (mkF m pc1 Ls (st)))) (no : x.toInt ≥ y.toInt → W p e below s R n0 Q (T.setTop (mkF m pc2 Ls (st)))) : W p e below s R n0 Q (T.setTop (mkF m pc Ls (.long y :: .long x :: st))) := by
  have X' := X
  obtain ⟨locs, X, eT, N, hs0, hcl, hsl, hx, hZ, rfl, hml, hown, hnm, hret, hlk⟩ := X
  refine W.of (fun t k => XS.lcmp X.here hx rfl hd rfl k) ?_
  have e1 : pc + 1 = pc' := hp.1
  show W p e below s R n0 Q (T.setTop (mkF m (pc + 1) Ls (.int (if x > y then 1 else if x = y then 0 else -1) :: st)))
  rw [e1]
  refine w_if_lt X' hd2 hp.2 (fun z => yes ?_) (fun z => no ?_)
  all_goals rcases hL2 (x := x) (y := y) with ⟨q1, q2⟩ | ⟨q1, rfl, -⟩ | ⟨q1, q2⟩
  all_goals first | rfl | exact Int.le_refl _ | (exfalso; rw [z] at q1; revert q1; decide) | (exfalso; exact z q1) | (exfalso; rw [q1] at z; revert z; decide) | (intro u; subst u; exact absurd q2 (Int.lt_irrefl _)) | omega
theorem w_lcif_ge (X : Sn Z n0 bs mx own nm ret p l e R s m args below meth c T h cells slots) {x y : Int64} (hd : decode bs pc = .ok (.lcmp, 1)) (hd2 : decode bs pc' = .ok (.ifCond .ge o, 3)) (hp : pc + 1 = pc' ∧ 0 ≤ (pc' : Int) + o ∧ ((pc' : Int) + o).toNat = pc1 ∧ pc' + 3 = pc2)
    (yes : x.toInt ≥ y.toInt → W p e below s R n0 Q (T.setTop (mkF m pc1 Ls (st)))) (no : x.toInt < y.toInt → W p e below s R n0 Q (T.setTop (mkF m pc2 Ls (st)))) : W p e below s R n0 Q (T.setTop (mkF m pc Ls (.long y :: .long x :: st))) := by
  have X' := X
  obtain ⟨locs, X, eT, N, hs0, hcl, hsl, hx, hZ, rfl, hml, hown, hnm, hret, hlk⟩ := X
  refine W.of (fun t k => XS.lcmp X.here hx rfl hd rfl k) ?_
  have e1 : pc + 1 = pc' := hp.1
  show W p e below s R n0 Q (T.setTop (mkF m (pc + 1) Ls (.int (if x > y then 1 else if x = y then 0 else -1) :: st)))
  rw [e1]
  refine w_if_ge X' hd2 hp.2 (fun z => yes ?_) (fun z => no ?_)
  all_goals rcases hL2 (x := x) (y := y) with ⟨q1, q2⟩ | ⟨q1, rfl, -⟩ | ⟨q1, q2⟩
  all_goals first | rfl | exact Int.le_refl _ | (exfalso; rw [z] at q1; revert q1; decide) | (exfalso; exact z q1) | (exfalso; rw [q1] at z; revert z; decide) | (intro u; subst u; exact absurd q2 (Int.lt_irrefl _)) | omega
theorem w_lcif_gt (X : Sn Z n0 bs mx own nm ret p l e R s m args below meth c T h cells slots) {x y : Int64} (hd : decode bs pc = .ok (.lcmp, 1)) (hd2 : decode bs pc' = .ok (.ifCond .gt o, 3)) (hp : pc + 1 = pc' ∧ 0 ≤ (pc' : Int) + o ∧ ((pc' : Int) + o).toNat = pc1 ∧ pc' + 3 = pc2)
    (yes : x.toInt > y.toInt → W p e below s R n0 Q (T.setTop (mkF m pc1 Ls (st)))) (no : x.toInt ≤ y.toInt → W p e below s R n0 Q (T.setTop (mkF m pc2 Ls (st)))) : W p e below s R n0 Q (T.setTop (mkF m pc Ls (.long y :: .long x :: st))) := by
  have X' := X
  obtain ⟨locs, X, eT, N, hs0, hcl, hsl, hx, hZ, rfl, hml, hown, hnm, hret, hlk⟩ := X
  refine W.of (fun t k => XS.lcmp X.here hx rfl hd rfl k) ?_
  have e1 : pc + 1 = pc' := hp.1
  show W p e below s R n0 Q (T.setTop (mkF m (pc + 1) Ls (.int (if x > y then 1 else if x = y then 0 else -1) :: st)))
  rw [e1]
  refine w_if_gt X' hd2 hp.2 (fun z => yes ?_) (fun z => no ?_)
  all_goals rcases hL2 (x := x) (y := y) with ⟨q1, q2⟩ | ⟨q1, rfl, -⟩ | ⟨q1, q2⟩
  all_goals first | rfl | exact Int.le_refl _ | (exfalso; rw [z] at q1; revert q1; decide) | (exfalso; exact z q1) | (exfalso; rw [q1] at z; revert z; decide) | (intro u; subst u; exact absurd q2 (Int.lt_irrefl _)) | omega
theorem w_lcif_le (X : Sn Z n0 bs mx own nm ret p l e R s m args below meth c T h cells slots) {x y : Int64} (hd : decode bs pc = .ok (.lcmp, 1)) (hd2 : decode bs pc' = .ok (.ifCond .le o, 3)) (hp : pc + 1 = pc' ∧ 0 ≤ (pc' : Int) + o ∧ ((pc' : Int) + o).toNat = pc1 ∧ pc' + 3 = pc2)
    (yes : x.toInt ≤ y.toInt → W p e below s R n0 Q (T.setTop (mkF m pc1 Ls (st)))) (no : x.toInt > y.toInt → W p e below s R n0 Q (T.setTop (mkF m pc2 Ls (st)))) : W p e below s R n0 Q (T.setTop (mkF m pc Ls (.long y :: .long x :: st))) := by
  have X' := X
  obtain ⟨locs, X, eT, N, hs0, hcl, hsl, hx, hZ, rfl, hml, hown, hnm, hret, hlk⟩ := X
  refine W.of (fun t k => XS.lcmp X.here hx rfl hd rfl k) ?_
  have e1 : pc + 1 = pc' := hp.1
  show W p e below s R n0 Q (T.setTop (mkF m (pc + 1) Ls (.int (if x > y then 1 else if x = y then 0 else -1) :: st)))
  rw [e1]
  refine w_if_le X' hd2 hp.2 (fun z => yes ?_) (fun z => no ?_)
  all_goals rcases hL2 (x := x) (y := y) with ⟨q1, q2⟩ | ⟨q1, rfl, -⟩ | ⟨q1, q2⟩
  all_goals first | rfl | exact Int.le_refl _ | (exfalso; rw [z] at q1; revert q1; decide) | (exfalso; exact z q1) | (exfalso; rw [q1] at z; revert z; decide) | (intro u; subst u; exact absurd q2 (Int.lt_irrefl _)) | omega
theorem w_ifnull_ref (X : Sn Z n0 bs mx own nm ret p l e R s m args below meth c T h cells slots) {b : Addr} (hd : decode bs pc = .ok (.ifnull o, 3)) (hp : pc + 3 = pc')
    (w : W p e below s R n0 Q (T.setTop (mkF m pc' Ls (st)))) : W p e below s R n0 Q (T.setTop (mkF m pc Ls (.ref b :: st))) := by
  obtain ⟨locs, X, eT, N, hs0, hcl, hsl, hx, hZ, rfl, hml, hown, hnm, hret, hlk⟩ := X
  subst hp
  exact W.of (fun t k => XS.ifnullNo X.here hx rfl hd rfl k) w
theorem w_ifnull_null (X : Sn Z n0 bs mx own nm ret p l e R s m args below meth c T h cells slots) (hd : decode bs pc = .ok (.ifnull o, 3)) (hp : 0 ≤ (pc : Int) + o ∧ ((pc : Int) + o).toNat = pc')
    (w : W p e below s R n0 Q (T.setTop (mkF m pc' Ls (st)))) : W p e below s R n0 Q (T.setTop (mkF m pc Ls (.null :: st))) := by
  obtain ⟨locs, X, eT, N, hs0, hcl, hsl, hx, hZ, rfl, hml, hown, hnm, hret, hlk⟩ := X
  exact W.of (fun t k => XS.ifnullYes X.here hx rfl rfl hd rfl hp.1 hp.2 k) w
theorem idxOf {j : Int32} {i n : Nat} {cl : Cell} (q : j.toInt = i) (hi : i < n) (hn : cl.slots.size = n) : ¬ (j < 0 ∨ cl.slots.size ≤ j.toNatClampNeg) ∧ j.toNatClampNeg = i := by
  have e : j.toNatClampNeg = i := by simp only [Int32.toNatClampNeg]; omega
  refine ⟨?_, e⟩
  rw [e, hn, Int32.lt_iff_toInt_lt]
  have : (0 : Int32).toInt = 0 := rfl
  omega
theorem w_iaload (X : Sn Z n0 bs mx own nm ret p l e R s m args below meth c T h cells slots) {a : Addr} {n i : Nat} {f : Nat → Value} {j : Int32} {v : Value} (F : AF Z h a .int n f) (hd : decode bs pc = .ok (.iaload, 1)) (hj : j.toInt = i) (hi : i < n) (hv : f i = v) (hp : pc + 1 = pc')
    (w : W p e below s R n0 Q (T.setTop (mkF m pc' Ls (v :: st)))) : W p e below s R n0 Q (T.setTop (mkF m pc Ls (.int j :: .ref a :: st))) := by
  obtain ⟨locs, X, eT, N, hs0, hcl, hsl, hx, hZ, rfl, hml, hown, hnm, hret, hlk⟩ := X
  obtain ⟨cl, A, r1, r2, r3⟩ := F
  obtain ⟨q1, q2⟩ := idxOf (cl := cl) hj hi r1
  subst hp hv eT
  exact W.of (fun t k => X.iaload hx (j := j) (v := f i) A.1 (State.isArrayOf_alike hZ.alike A.2.1) A.2.2 q1 (by rw [q2]; exact r3 i hi) (g := mkF m pc Ls (.int j :: .ref a :: st)) rfl rfl hd _ k) w
theorem w_laload (X : Sn Z n0 bs mx own nm ret p l e R s m args below meth c T h cells slots) {a : Addr} {n i : Nat} {f : Nat → Value} {j : Int32} {v : Value} (F : AF Z h a .long n f) (hd : decode bs pc = .ok (.laload, 1)) (hj : j.toInt = i) (hi : i < n) (hv : f i = v) (hp : pc + 1 = pc')
    (w : W p e below s R n0 Q (T.setTop (mkF m pc' Ls (v :: st)))) : W p e below s R n0 Q (T.setTop (mkF m pc Ls (.int j :: .ref a :: st))) := by
  obtain ⟨locs, X, eT, N, hs0, hcl, hsl, hx, hZ, rfl, hml, hown, hnm, hret, hlk⟩ := X
  obtain ⟨cl, A, r1, r2, r3⟩ := F
  obtain ⟨q1, q2⟩ := idxOf (cl := cl) hj hi r1
  subst hp hv eT
  exact W.of (fun t k => X.laload hx (j := j) (v := f i) A.1 (State.isArrayOf_alike hZ.alike A.2.1) A.2.2 q1 (by rw [q2]; exact r3 i hi) (g := mkF m pc Ls (.int j :: .ref a :: st)) rfl rfl hd _ k) w
theorem w_baloadB (X : Sn Z n0 bs mx own nm ret p l e R s m args below meth c T h cells slots) {a : Addr} {n i : Nat} {f : Nat → Value} {j : Int32} {v : Value} (F : AF Z h a .byte n f) (hd : decode bs pc = .ok (.baload, 1)) (hj : j.toInt = i) (hi : i < n) (hv : f i = v) (hp : pc + 1 = pc')
    (w : W p e below s R n0 Q (T.setTop (mkF m pc' Ls (v :: st)))) : W p e below s R n0 Q (T.setTop (mkF m pc Ls (.int j :: .ref a :: st))) := by
  obtain ⟨locs, X, eT, N, hs0, hcl, hsl, hx, hZ, rfl, hml, hown, hnm, hret, hlk⟩ := X
  obtain ⟨cl, A, r1, r2, r3⟩ := F
  obtain ⟨q1, q2⟩ := idxOf (cl := cl) hj hi r1
  subst hp hv eT
  exact W.of (fun t k => X.baloadBytes hx (j := j) (v := f i) A.1 (State.isArrayOf_alike hZ.alike A.2.1) A.2.2 q1 (by rw [q2]; exact r3 i hi) (g := mkF m pc Ls (.int j :: .ref a :: st)) rfl rfl hd _ k) w
theorem w_baloadZ (X : Sn Z n0 bs mx own nm ret p l e R s m args below meth c T h cells slots) {a : Addr} {n i : Nat} {f : Nat → Value} {j : Int32} {v : Value} (F : AF Z h a .boolean n f) (hd : decode bs pc = .ok (.baload, 1)) (hj : j.toInt = i) (hi : i < n) (hv : f i = v) (hp : pc + 1 = pc')
    (w : W p e below s R n0 Q (T.setTop (mkF m pc' Ls (v :: st)))) : W p e below s R n0 Q (T.setTop (mkF m pc Ls (.int j :: .ref a :: st))) := by
  obtain ⟨locs, X, eT, N, hs0, hcl, hsl, hx, hZ, rfl, hml, hown, hnm, hret, hlk⟩ := X
  obtain ⟨cl, A, r1, r2, r3⟩ := F
  obtain ⟨q1, q2⟩ := idxOf (cl := cl) hj hi r1
  subst hp hv eT
  exact W.of (fun t k => X.baloadBooleans hx (j := j) (v := f i) A.1 (State.isArrayOf_alike hZ.alike A.2.1) A.2.2 q1 (by rw [q2]; exact r3 i hi) (g := mkF m pc Ls (.int j :: .ref a :: st)) rfl rfl hd _ k) w
theorem w_iastore (X : Sn Z n0 bs mx own nm ret p l e R s m args below meth c T h cells slots) {a : Addr} {n i : Nat} {f : Nat → Value} {j : Int32} {x : Int32} (F : AF Z h a .int n f) (hd : decode bs pc = .ok (.iastore, 1)) (hj : j.toInt = i) (hi : i < n) (hp : pc + 1 = pc') (ha : n0 ≤ a)
    (w : ∀ T' h', Sn Z n0 bs mx own nm ret p l e R s m args below meth c T' h' cells slots → Wr h h' a i (.int x) → W p e below s R n0 Q (T'.setTop (mkF m pc' Ls (st)))) : W p e below s R n0 Q (T.setTop (mkF m pc Ls (.int x :: .int j :: .ref a :: st))) := by
  obtain ⟨locs, X, eT, N, hs0, hcl, hsl, hx, hZ, rfl, hml, hown, hnm, hret, hlk⟩ := X
  obtain ⟨cl, A, r1, r2, r3⟩ := F
  obtain ⟨q1, q2⟩ := idxOf (cl := cl) hj hi r1
  subst hp
  obtain ⟨T', h', X', e', W', st'⟩ := stI X hx hZ eT A (j := j) q1 (g := mkF m pc Ls (.int x :: .int j :: .ref a :: st)) rfl rfl hd
  rw [q2] at X' W'
  exact W.of st' (w T' h' ⟨_, X', e', Fr.snoc X' N ha, by rw [W'.size]; exact hs0, hcl, hsl, hx, hZ, rfl, hml, hown, hnm, hret, hlk⟩ W')
theorem w_lastore (X : Sn Z n0 bs mx own nm ret p l e R s m args below meth c T h cells slots) {a : Addr} {n i : Nat} {f : Nat → Value} {j : Int32} {x : Int64} (F : AF Z h a .long n f) (hd : decode bs pc = .ok (.lastore, 1)) (hj : j.toInt = i) (hi : i < n) (hp : pc + 1 = pc') (ha : n0 ≤ a)
    (w : ∀ T' h', Sn Z n0 bs mx own nm ret p l e R s m args below meth c T' h' cells slots → Wr h h' a i (.long x) → W p e below s R n0 Q (T'.setTop (mkF m pc' Ls (st)))) : W p e below s R n0 Q (T.setTop (mkF m pc Ls (.long x :: .int j :: .ref a :: st))) := by
  obtain ⟨locs, X, eT, N, hs0, hcl, hsl, hx, hZ, rfl, hml, hown, hnm, hret, hlk⟩ := X
  obtain ⟨cl, A, r1, r2, r3⟩ := F
  obtain ⟨q1, q2⟩ := idxOf (cl := cl) hj hi r1
  subst hp
  obtain ⟨T', h', X', e', W', st'⟩ := stJ X hx hZ eT A (j := j) q1 (g := mkF m pc Ls (.long x :: .int j :: .ref a :: st)) rfl rfl hd
  rw [q2] at X' W'
  exact W.of st' (w T' h' ⟨_, X', e', Fr.snoc X' N ha, by rw [W'.size]; exact hs0, hcl, hsl, hx, hZ, rfl, hml, hown, hnm, hret, hlk⟩ W')
theorem w_bastoreB (X : Sn Z n0 bs mx own nm ret p l e R s m args below meth c T h cells slots) {a : Addr} {n i : Nat} {f : Nat → Value} {j : Int32} {x : Int32} (F : AF Z h a .byte n f) (hd : decode bs pc = .ok (.bastore, 1)) (hj : j.toInt = i) (hi : i < n) (hp : pc + 1 = pc') (ha : n0 ≤ a)
    (w : ∀ T' h', Sn Z n0 bs mx own nm ret p l e R s m args below meth c T' h' cells slots → Wr h h' a i (.int (x.toInt8.toInt32)) → W p e below s R n0 Q (T'.setTop (mkF m pc' Ls (st)))) : W p e below s R n0 Q (T.setTop (mkF m pc Ls (.int x :: .int j :: .ref a :: st))) := by
  obtain ⟨locs, X, eT, N, hs0, hcl, hsl, hx, hZ, rfl, hml, hown, hnm, hret, hlk⟩ := X
  obtain ⟨cl, A, r1, r2, r3⟩ := F
  obtain ⟨q1, q2⟩ := idxOf (cl := cl) hj hi r1
  subst hp
  obtain ⟨T', h', X', e', W', st'⟩ := stB X hx hZ eT A (j := j) q1 (g := mkF m pc Ls (.int x :: .int j :: .ref a :: st)) rfl rfl hd
  rw [q2] at X' W'
  exact W.of st' (w T' h' ⟨_, X', e', Fr.snoc X' N ha, by rw [W'.size]; exact hs0, hcl, hsl, hx, hZ, rfl, hml, hown, hnm, hret, hlk⟩ W')
theorem w_bastoreZ (X : Sn Z n0 bs mx own nm ret p l e R s m args below meth c T h cells slots) {a : Addr} {n i : Nat} {f : Nat → Value} {j : Int32} {x : Int32} (F : AF Z h a .boolean n f) (hd : decode bs pc = .ok (.bastore, 1)) (hj : j.toInt = i) (hi : i < n) (hp : pc + 1 = pc') (ha : n0 ≤ a)
    (w : ∀ T' h', Sn Z n0 bs mx own nm ret p l e R s m args below meth c T' h' cells slots → Wr h h' a i (.int (x &&& 1)) → W p e below s R n0 Q (T'.setTop (mkF m pc' Ls (st)))) : W p e below s R n0 Q (T.setTop (mkF m pc Ls (.int x :: .int j :: .ref a :: st))) := by
  obtain ⟨locs, X, eT, N, hs0, hcl, hsl, hx, hZ, rfl, hml, hown, hnm, hret, hlk⟩ := X
  obtain ⟨cl, A, r1, r2, r3⟩ := F
  obtain ⟨q1, q2⟩ := idxOf (cl := cl) hj hi r1
  subst hp
  obtain ⟨T', h', X', e', W', st'⟩ := stZ X hx hZ eT A (j := j) q1 (g := mkF m pc Ls (.int x :: .int j :: .ref a :: st)) rfl rfl hd
  rw [q2] at X' W'
  exact W.of st' (w T' h' ⟨_, X', e', Fr.snoc X' N ha, by rw [W'.size]; exact hs0, hcl, hsl, hx, hZ, rfl, hml, hown, hnm, hret, hlk⟩ W')
theorem w_arraylength (X : Sn Z n0 bs mx own nm ret p l e R s m args below meth c T h cells slots) {a : Addr} {ty : FieldType} {n : Nat} {f : Nat → Value} {z : Int32} (F : AF Z h a ty n f) (hd : decode bs pc = .ok (.arraylength, 1)) (hz : z.toInt = n) (hp : pc + 1 = pc')
    (w : W p e below s R n0 Q (T.setTop (mkF m pc' Ls (.int z :: st)))) : W p e below s R n0 Q (T.setTop (mkF m pc Ls (.ref a :: st))) := by
  obtain ⟨locs, X, eT, N, hs0, hcl, hsl, hx, hZ, rfl, hml, hown, hnm, hret, hlk⟩ := X
  obtain ⟨cl, A, r1, r2, r3⟩ := F
  subst hp eT
  have e1 : cl.slots.size.toInt32 = z := Int32.toInt_inj.mp (by rw [len_toInt (by rw [r1]; exact r2), hz, r1])
  rw [← e1] at w
  exact W.of (fun t k => X.arraylength hx A.1 (State.isArrayOf_alike hZ.alike A.2.1) (g := mkF m pc Ls (.ref a :: st)) rfl rfl hd _ k) w
theorem w_newarray (X : Sn Z n0 bs mx own nm ret p l e R s m args below meth c T h cells slots) {aty : ArrayType} {z : Int32} {n cap : Nat} (hd : decode bs pc = .ok (.newarray aty, 2)) (w0 : (Cond.arrayClass (newarray.typeOf aty)).before a0 Z = true) (hz : z.toInt = n) (hcap : n ≤ cap) (hr : cap * 8 ≤ 536870912 ∧ cells + 1 ≤ R.cells ∧ slots + cap ≤ R.slots ∧ pc + 2 = pc')
    (w : ∀ T' h' b, Sn Z n0 bs mx own nm ret p l e R s m args below meth c T' h' (cells + 1) (slots + cap) → Ext h h' → b = h.size → n0 ≤ b → AF Z h' b (newarray.typeOf aty) n (fun _ => defaultValue (newarray.typeOf aty)) → W p e below s R n0 Q (T'.setTop (mkF m pc' Ls (.ref b :: st)))) : W p e below s R n0 Q (T.setTop (mkF m pc Ls (.int z :: st))) := by
  obtain ⟨locs, X, eT, N, hs0, hcl, hsl, hx, hZ, rfl, hml, hown, hnm, hret, hlk⟩ := X
  have hn : ¬ z < 0 := by rw [Int32.lt_iff_toInt_lt]; have : (0 : Int32).toInt = 0 := rfl; omega
  obtain ⟨T', h', cA, X', e', E', A', st'⟩ := newP X hx hZ w0 eT (g := mkF m pc Ls (.int z :: st)) rfl hd rfl hn (cap := cap) (by simp only [Int32.toNatClampNeg]; omega) hr.1 hr.2.1 hr.2.2.1
  obtain ⟨-, hr2, hr3, hp⟩ := hr
  subst hp
  exact W.of st' (w T' h' _ ⟨_, X', e', N, Nat.le_trans hs0 E'.1, hr2, hr3, hx, hZ, rfl, hml, hown, hnm, hret, hlk⟩ E' rfl hs0 (AF.new A' hz))
theorem w_ireturn (X : Sn Z n0 bs mx own nm ret p l e R s m args below meth c T h cells slots) {v : Int32} (hd : decode bs pc = .ok (.ireturn, 1)) (hq : ret = some .int) (q : Q (some (.int v)) h) : W p e below s R n0 Q (T.setTop (mkF m pc Ls (.int v :: st))) := by
  obtain ⟨locs, X, eT, N, hs0, hcl, hsl, hx, hZ, rfl, hml, hown, hnm, hret, hlk⟩ := X
  obtain ⟨fs, hr, hrun, hended, hW, hsame⟩ := X.leave (v := some (.int v)) (fun u => by rw [hret, hq] at u; cases u) hlk
  exact ⟨_, _, retOut X hx (hret.trans hq) rfl (Or.inl ⟨rfl, Or.inl rfl, _, rfl⟩) hd hr, hrun, hended, _, locs, rfl, ⟨N, by rw [← eT] at hs0; exact hs0, by rw [← eT] at q; exact q⟩, ⟨_, rfl⟩, hW, hsame.mono hcl hsl⟩
theorem w_lreturn (X : Sn Z n0 bs mx own nm ret p l e R s m args below meth c T h cells slots) {v : Int64} (hd : decode bs pc = .ok (.lreturn, 1)) (hq : ret = some .long) (q : Q (some (.long v)) h) : W p e below s R n0 Q (T.setTop (mkF m pc Ls (.long v :: st))) := by
  obtain ⟨locs, X, eT, N, hs0, hcl, hsl, hx, hZ, rfl, hml, hown, hnm, hret, hlk⟩ := X
  obtain ⟨fs, hr, hrun, hended, hW, hsame⟩ := X.leave (v := some (.long v)) (fun u => by rw [hret, hq] at u; cases u) hlk
  exact ⟨_, _, retOut X hx (hret.trans hq) rfl (Or.inr (Or.inl ⟨rfl, rfl, _, rfl⟩)) hd hr, hrun, hended, _, locs, rfl, ⟨N, by rw [← eT] at hs0; exact hs0, by rw [← eT] at q; exact q⟩, ⟨_, rfl⟩, hW, hsame.mono hcl hsl⟩
theorem w_areturn (X : Sn Z n0 bs mx own nm ret p l e R s m args below meth c T h cells slots) {v : Value} {t : FieldType} (hd : decode bs pc = .ok (.areturn, 1)) (hq : ret = some t) (ht : t.isReference = true) (hv : v.isRef = true) (hn : narrow t v = v) (q : Q (some v) h) : W p e below s R n0 Q (T.setTop (mkF m pc Ls (v :: st))) := by
  obtain ⟨locs, X, eT, N, hs0, hcl, hsl, hx, hZ, rfl, hml, hown, hnm, hret, hlk⟩ := X
  obtain ⟨fs, hr, hrun, hended, hW, hsame⟩ := X.leave (v := some v) (fun u => by rw [hret, hq] at u; cases u) hlk
  exact ⟨_, _, retOut X hx (hret.trans hq) hn (Or.inr (Or.inr (Or.inr (Or.inr ⟨rfl, ht, hv⟩)))) hd hr, hrun, hended, _, locs, rfl, ⟨N, by rw [← eT] at hs0; exact hs0, by rw [← eT] at q; exact q⟩, ⟨_, rfl⟩, hW, hsame.mono hcl hsl⟩
theorem w_nreturn (X : Sn Z n0 bs mx own nm ret p l e R s m args below meth c T h cells slots) {v : Int32} {t : FieldType} (hd : decode bs pc = .ok (.ireturn, 1)) (hq : ret = some t) (ht : t = .boolean ∨ t = .byte ∨ t = .char ∨ t = .short) (q : Q (some (.int (nar t v))) h) : W p e below s R n0 Q (T.setTop (mkF m pc Ls (.int v :: st))) := by
  obtain ⟨locs, X, eT, N, hs0, hcl, hsl, hx, hZ, rfl, hml, hown, hnm, hret, hlk⟩ := X
  obtain ⟨fs, hr, hrun, hended, hW, hsame⟩ := X.leave (v := some (.int (nar t v))) (fun u => by rw [hret, hq] at u; cases u) hlk
  exact ⟨_, _, retN X hx (hret.trans hq) ht hd hr, hrun, hended, _, locs, rfl, ⟨N, by rw [← eT] at hs0; exact hs0, by rw [← eT] at q; exact q⟩, ⟨_, rfl⟩, hW, hsame.mono hcl hsl⟩
theorem w_return (X : Sn Z n0 bs mx own nm ret p l e R s m args below meth c T h cells slots) (hd : decode bs pc = .ok (.return_, 1)) (hq : ret = none) (q : Q (none) h) : W p e below s R n0 Q (T.setTop (mkF m pc Ls ([]))) := by
  obtain ⟨locs, X, eT, N, hs0, hcl, hsl, hx, hZ, rfl, hml, hown, hnm, hret, hlk⟩ := X
  obtain ⟨fs, hr, hrun, hended, hW, hsame⟩ := X.leave (v := none) (fun _ => rfl) hlk
  exact ⟨_, _, X.returnOut hx (hret.trans hq) hd hr, hrun, hended, _, locs, rfl, ⟨N, by rw [← eT] at hs0; exact hs0, by rw [← eT] at q; exact q⟩, ⟨_, rfl⟩, hW, hsame.mono hcl hsl⟩
theorem w_callS (X : Sn Z n0 bs mx own nm ret p l e R s m args below meth c T h cells slots) {index : Nat} {y : MethodName} {b2 : ByteArray} {m2 : Nat} {r2 : Option FieldType} {R2 : Room} {argsL rest : List Value} {wd : Nat} {ps : List FieldType} {r3 : Option FieldType} {Q2 : Option Value → Heap → Prop} 
    (hd : decode bs pc = .ok (.invokestatic index, 3)) (w1 : (Cond.methodLink own index y).before a0 Z = true) (w2 : (Cond.static y).before a0 Z = true) (w3 : (Cond.initialized y.cls).before a0 Z = true) (w4 : (Cond.code y b2 m2 r2).before a0 Z = true)
    (hy : y.cls ≠ "java/lang/invoke/MethodHandle" ∧ y.cls ≠ "java/lang/invoke/VarHandle") (C : Ct l Z y b2 m2 r2 [] R2 argsL.toArray h n0 Q2) (hpd : parseMethodDescriptor y.desc = some ⟨ps, r3⟩) (hlen : argsL.length = ps.length)
    (hst : st = argsL.reverse ++ rest) (hsz : Ls.size = mx) (hwd : (rest.map fun v => v.category).sum ≤ wd) (hr : R2.frames + 1 ≤ R.frames ∧ wd + (m2 + 11) + R2.locals ≤ R.locals ∧ cells + R2.cells ≤ R.cells ∧ slots + R2.slots ≤ R.slots ∧ pc + 3 = pc')
    (w : ∀ v T' h', Sn Z n0 bs mx own nm ret p l e R s m args below meth c T' h' (cells + R2.cells) (slots + R2.slots) → Q2 v h' → W p e below s R n0 Q (T'.setTop (mkF m pc' Ls (v.toList ++ rest)))) : W p e below s R n0 Q (T.setTop (mkF m pc Ls (st))) := by
  obtain ⟨locs, X, eT, N, hs0, hcl, hsl, hx, hZ, rfl, hml, hown, hnm, hret, hlk⟩ := X
  obtain ⟨hr1, hr2, hr3, hr4, hp⟩ := hr
  obtain ⟨v, vm1, ⟨T', L', k', n'⟩, -, X', ⟨Lc, hQ, l', y', z'⟩, st'⟩ := Jvm.LawKit.callS X hx (y := y) hown (mvT hZ w1) (mvT hZ w2) (mvT hZ w3) (mvT hZ w4) hy (backOf (W := wd) (Q := Qc n0 Q2) C hZ w4 w3 hr1 hr2) (g := mkF m pc Ls st) rfl (hsz.trans hml.symm) (argsL := argsL) (rest := rest) (lenOf hpd hlen) hst (by show 2 * 0 + _ ≤ _; omega) hd (fun _ _ => ⟨rfl, eT, hr3, hr4⟩)
  dsimp only [Pt.U, Pt.locs, Pt.cells, Pt.slots] at X' l' y' z' st' hQ
  subst l' y' z' hp
  exact W.of st' (w v T' T'.heap ⟨_, X', rfl, Fr.app N hQ.1, hQ.2.1, hr3, hr4, hx, hZ, rfl, hml, hown, hnm, hret, hlk⟩ hQ.2.2)
theorem w_callC (X : Sn Z n0 bs mx own nm ret p l e R s m args below meth c T h cells slots) {index : Nat} {y : MethodName} {b2 : ByteArray} {m2 : Nat} {R2 : Room} {argsL rest : List Value} {wd : Nat} {ps : List FieldType} {r3 : Option FieldType} {Q2 : Option Value → Heap → Prop} {a : Addr} (hy1 : y.name = "<init>")
    (hd : decode bs pc = .ok (.invokespecial index, 3)) (w1 : (Cond.methodLink own index y).before a0 Z = true) (w2 : (Cond.instanceMethod y).before a0 Z = true) (w3 : (Cond.initialized y.cls).before a0 Z = true) (w4 : (Cond.code y b2 m2 none).before a0 Z = true)
    (hy : y.cls ≠ "java/lang/invoke/MethodHandle" ∧ y.cls ≠ "java/lang/invoke/VarHandle") (C : Ct l Z y b2 m2 none [] R2 (.ref a :: argsL).toArray h n0 Q2) (hpd : parseMethodDescriptor y.desc = some ⟨ps, r3⟩) (hlen : argsL.length = ps.length)
    (hst : st = argsL.reverse ++ .ref a :: rest) (hsz : Ls.size = mx) (hwd : (rest.map fun v => v.category).sum ≤ wd) (hr : R2.frames + 1 ≤ R.frames ∧ wd + (m2 + 11) + R2.locals ≤ R.locals ∧ cells + R2.cells ≤ R.cells ∧ slots + R2.slots ≤ R.slots ∧ pc + 3 = pc')
    (w : ∀ v T' h', Sn Z n0 bs mx own nm ret p l e R s m args below meth c T' h' (cells + R2.cells) (slots + R2.slots) → Q2 v h' → W p e below s R n0 Q (T'.setTop (mkF m pc' Ls (v.toList ++ rest)))) : W p e below s R n0 Q (T.setTop (mkF m pc Ls (st))) := by
  obtain ⟨locs, X, eT, N, hs0, hcl, hsl, hx, hZ, rfl, hml, hown, hnm, hret, hlk⟩ := X
  obtain ⟨hr1, hr2, hr3, hr4, hp⟩ := hr
  obtain ⟨v, vm1, ⟨T', L', k', n'⟩, -, X', ⟨Lc, hQ, l', y', z'⟩, st'⟩ := X.specialBack hx (y := y) hy1 hown (mvT hZ w1) (mvT hZ w2) (mvT hZ w4) hy (backOf (W := wd) (Q := Qc n0 Q2) C hZ w4 w3 hr1 hr2) (g := mkF m pc Ls st) rfl (hsz.trans hml.symm) (Steps.refl _) (a := a) (argsL := argsL) (rest := rest) (lenOf hpd hlen) hst (by show 2 * 0 + _ ≤ _; omega) hd (fun _ _ => ⟨rfl, eT, hr3, hr4⟩)
  dsimp only [Pt.U, Pt.locs, Pt.cells, Pt.slots] at X' l' y' z' st' hQ
  subst l' y' z' hp
  exact W.fwd st' (w v T' T'.heap ⟨_, X', rfl, Fr.app N hQ.1, hQ.2.1, hr3, hr4, hx, hZ, rfl, hml, hown, hnm, hret, hlk⟩ hQ.2.2)
theorem w_callV (X : Sn Z n0 bs mx own nm ret p l e R s m args below meth c T h cells slots) {index : Nat} {y : MethodName} {b2 : ByteArray} {m2 : Nat} {r2 : Option FieldType} {R2 : Room} {argsL rest : List Value} {wd : Nat} {ps : List FieldType} {r3 : Option FieldType} {Q2 : Option Value → Heap → Prop} {a : Addr} {K : String} (E : Exa Z h a K)
    (hd : decode bs pc = .ok (.invokevirtual index, 3)) (w1 : (Cond.methodLink own index y).before a0 Z = true) (wd0 : (Cond.declares y).before a0 Z = true) (ws0 : (Cond.selects K y y).before a0 Z = true) (w2 : (Cond.instanceMethod y).before a0 Z = true) (w3 : (Cond.initialized y.cls).before a0 Z = true) (w4 : (Cond.code y b2 m2 r2).before a0 Z = true)
    (hy : y.cls ≠ "java/lang/invoke/MethodHandle" ∧ y.cls ≠ "java/lang/invoke/VarHandle") (C : Ct l Z y b2 m2 r2 [] R2 (.ref a :: argsL).toArray h n0 Q2) (hpd : parseMethodDescriptor y.desc = some ⟨ps, r3⟩) (hlen : argsL.length = ps.length)
    (hst : st = argsL.reverse ++ .ref a :: rest) (hsz : Ls.size = mx) (hwd : (rest.map fun v => v.category).sum ≤ wd) (hr : R2.frames + 1 ≤ R.frames ∧ wd + (m2 + 11) + R2.locals ≤ R.locals ∧ cells + R2.cells ≤ R.cells ∧ slots + R2.slots ≤ R.slots ∧ pc + 3 = pc')
    (w : ∀ v T' h', Sn Z n0 bs mx own nm ret p l e R s m args below meth c T' h' (cells + R2.cells) (slots + R2.slots) → Q2 v h' → W p e below s R n0 Q (T'.setTop (mkF m pc' Ls (v.toList ++ rest)))) : W p e below s R n0 Q (T.setTop (mkF m pc Ls (st))) := by
  obtain ⟨locs, X, eT, N, hs0, hcl, hsl, hx, hZ, rfl, hml, hown, hnm, hret, hlk⟩ := X
  obtain ⟨hr1, hr2, hr3, hr4, hp⟩ := hr
  obtain ⟨cq, kq, qa, qb, qc⟩ := isOf hZ eT E
  obtain ⟨v, vm1, ⟨T', L', k', n'⟩, -, X', ⟨Lc, hQ, l', y', z'⟩, st'⟩ := X.virtualBack hx (y := y) (z := y) hown (mvT hZ w1) (mvT hZ wd0) (notFace_of_selects (args := #[]) (mvT hZ ws0)) (mvT hZ ws0) (mvT hZ w2) hy (backOf (W := wd) (Q := Qc n0 Q2) C hZ w4 w3 hr1 hr2) qa qc (g := mkF m pc Ls st) rfl (hsz.trans hml.symm) (Steps.refl _) (argsL := argsL) (rest := rest) (lenOf hpd hlen) hst (by show 2 * 0 + _ ≤ _; omega) hd (fun _ _ => ⟨rfl, eT, hr3, hr4⟩)
  dsimp only [Pt.U, Pt.locs, Pt.cells, Pt.slots] at X' l' y' z' st' hQ
  subst l' y' z' hp
  exact W.fwd st' (w v T' T'.heap ⟨_, X', rfl, Fr.app N hQ.1, hQ.2.1, hr3, hr4, hx, hZ, rfl, hml, hown, hnm, hret, hlk⟩ hQ.2.2)
theorem w_initO (X : Sn Z n0 bs mx own nm ret p l e R s m args below meth c T h cells slots) {idx : Nat} {a : Addr} {wd : Nat} (hd : decode bs pc = .ok (.invokespecial idx, 3)) (w1 : (Cond.methodLink own idx Lib.objectInit).before a0 Z = true) (w2 : (Cond.instanceMethod Lib.objectInit).before a0 Z = true) (w3 : (Cond.code Lib.objectInit ⟨#[0xb1]⟩ 1 none).before a0 Z = true)
    (hsz : Ls.size = mx) (hwd : (st.map fun v => v.category).sum ≤ wd) (hr : 1 ≤ R.frames ∧ wd + 12 ≤ R.locals ∧ pc + 3 = pc') (w : ∀ T', Sn Z n0 bs mx own nm ret p l e R s m args below meth c T' h cells slots → W p e below s R n0 Q (T'.setTop (mkF m pc' Ls (st)))) : W p e below s R n0 Q (T.setTop (mkF m pc Ls (.ref a :: st))) := by
  obtain ⟨locs, X, eT, N, hs0, hcl, hsl, hx, hZ, rfl, hml, hown, hnm, hret, hlk⟩ := X
  obtain ⟨hr1, hr2, hp⟩ := hr
  subst hp
  obtain ⟨T', X', e', st'⟩ := initO X hx hZ hown w1 w2 w3 eT (g := mkF m pc Ls (.ref a :: st)) rfl (hsz.trans hml.symm) rfl hd hr1 (W := wd) (by show 2 * 0 + _ ≤ _; omega) hr2
  exact W.of st' (w T' ⟨_, X', e', N, hs0, hcl, hsl, hx, hZ, rfl, hml, hown, hnm, hret, hlk⟩)
theorem w_getfield (X : Sn Z n0 bs mx own nm ret p l e R s m args below meth c T h cells slots) {R0 O n d : String} {index : Nat} {a : Addr} {v : Value} (F : Fld Z h a O n d v) (hd : decode bs pc = .ok (.getfield index, 3)) (w1 : (Cond.fieldLink own index R0 n d).before a0 Z = true) (via : Via Z R0 O n d) (hp : pc + 3 = pc')
    (w : ∀ T', Sn Z n0 bs mx own nm ret p l e R s m args below meth c T' h cells slots → W p e below s R n0 Q (T'.setTop (mkF m pc' Ls (v :: st)))) : W p e below s R n0 Q (T.setTop (mkF m pc Ls (.ref a :: st))) := by
  obtain ⟨locs, X, eT, N, hs0, hcl, hsl, hx, hZ, rfl, hml, hown, hnm, hret, hlk⟩ := X
  subst hp
  obtain ⟨T', X', e', st'⟩ := getF X hx hZ hown (host := "") (Or.inl w1) via eT F (g := mkF m pc Ls (.ref a :: st)) rfl rfl hd
  exact W.of st' (w T' ⟨_, X', e', N, hs0, hcl, hsl, hx, hZ, rfl, hml, hown, hnm, hret, hlk⟩)
theorem w_putfield (X : Sn Z n0 bs mx own nm ret p l e R s m args below meth c T h cells slots) {R0 O n d K : String} {index kk : Nat} {ty : FieldType} {a : Addr} {v v' old : Value} (F : Fld Z h a O n d old) (E : Exa Z h a K) (hd : decode bs pc = .ok (.putfield index, 3)) (w1 : (Cond.fieldLink own index R0 n d).before a0 Z = true) (via : Via Z R0 O n d)
    (L : (Cond.lays K O n d).before a0 Z = true ∨ ((Cond.laysFinal K O n d).before a0 Z = true ∧ own = O ∧ nm = "<init>")) (wi : (Cond.instantiable K kk).before a0 Z = true) (hty : parseFieldDescriptor d = some ty) (hn : narrow ty v = v') (hf : fits ty v' = true) (hp : pc + 3 = pc') (ha : n0 ≤ a)
    (w : ∀ T' h', Sn Z n0 bs mx own nm ret p l e R s m args below meth c T' h' cells slots → Wr h h' a (Jvm.RoadKit.slotOf Z O n d) v' → W p e below s R n0 Q (T'.setTop (mkF m pc' Ls (st)))) : W p e below s R n0 Q (T.setTop (mkF m pc Ls (v :: .ref a :: st))) := by
  obtain ⟨locs, X, eT, N, hs0, hcl, hsl, hx, hZ, rfl, hml, hown, hnm, hret, hlk⟩ := X
  subst hp
  obtain ⟨T', h', X', e', W', st'⟩ := putFN X hx hZ hown w1 via eT F E (L.imp id fun q => ⟨q.1, q.2.1, hnm.trans q.2.2⟩) wi hty hn hf (g := mkF m pc Ls (v :: .ref a :: st)) rfl rfl hd
  exact W.of st' (w T' h' ⟨_, X', e', Fr.snoc X' N ha, by rw [W'.size]; exact hs0, hcl, hsl, hx, hZ, rfl, hml, hown, hnm, hret, hlk⟩ W')
theorem w_new (X : Sn Z n0 bs mx own nm ret p l e R s m args below meth c T h cells slots) {K : String} {index kk : Nat} (hd : decode bs pc = .ok (.new index, 3)) (w1 : (Cond.classLink own index K).before a0 Z = true) (wi : (Cond.instantiable K kk).before a0 Z = true) (wz : (Cond.initialized K).before a0 Z = true) (hr : cells + 1 ≤ R.cells ∧ slots + kk ≤ R.slots ∧ pc + 3 = pc')
    (w : ∀ T' h' b, Sn Z n0 bs mx own nm ret p l e R s m args below meth c T' h' (cells + 1) (slots + kk) → Ext h h' → b = h.size → n0 ≤ b → Exa Z h' b K → (∀ {O nm d : String} {ty : FieldType}, Laid Z a0 K O nm d → parseFieldDescriptor d = some ty → Fld Z h' b O nm d (defaultValue ty)) → W p e below s R n0 Q (T'.setTop (mkF m pc' Ls (.ref b :: st)))) : W p e below s R n0 Q (T.setTop (mkF m pc Ls (st))) := by
  obtain ⟨locs, X, eT, N, hs0, hcl, hsl, hx, hZ, rfl, hml, hown, hnm, hret, hlk⟩ := X
  obtain ⟨hr1, hr2, hp⟩ := hr
  subst hp
  obtain ⟨T', h', X', e', E', A', D', -, st'⟩ := newO X hx hZ hown w1 wi wz eT (g := mkF m pc Ls st) rfl hd hr1 hr2
  exact W.of st' (w T' h' _ ⟨_, X', e', N, Nat.le_trans hs0 E'.1, hr1, hr2, hx, hZ, rfl, hml, hown, hnm, hret, hlk⟩ E' rfl hs0 A' D')
end
end Jvm.OwnW
namespace Jvm.Pilot.@@N@@
open Jvm Jvm.ClassFile Sem Op Lib Jvm.Free Jvm.Stand Jvm.LawKit Jvm.RoadKit Bundle Jvm.OwnW Jvm.Pilot.@@N@@.Jvm.D

def own_m1 (z : Int64) : Int64 := (z ^^^ lus z 30) * (-4658895280553007687)
def own_m2 (z : Int64) : Int64 := (z ^^^ lus z 27) * (-7723592293110705685)
def own_mix (z : Int64) : Int64 := own_m2 (own_m1 z) ^^^ lus (own_m2 (own_m1 z)) 31
def own_i (c x : Int64) : Int64 := x * (2 - c * x)
def own_inv (c : Int64) : Int64 := own_i c (own_i c (own_i c (own_i c (own_i c c))))
def own_u1 (y : Int64) : Int64 := (y ^^^ lus y 31 ^^^ lus y 62) * own_inv (-7723592293110705685)
def own_u2 (y : Int64) : Int64 := (y ^^^ lus y 27 ^^^ lus y 54) * own_inv (-4658895280553007687)
def own_un (y : Int64) : Int64 := own_u2 (own_u1 y) ^^^ lus (own_u2 (own_u1 y)) 30 ^^^ lus (own_u2 (own_u1 y)) 60
theorem own_xs (z : BitVec 64) (k : Nat) (h1 : k < 32) (h : 64 ≤ 3 * k) : (z ^^^ z >>> k) ^^^ (z ^^^ z >>> k) >>> k ^^^ (z ^^^ z >>> k) >>> (2 * k) = z := by
  apply BitVec.eq_of_getLsbD_eq
  intro i hi
  simp only [BitVec.getLsbD_xor, BitVec.getLsbD_ushiftRight]
  rw [show k + (k + i) = 2 * k + i by omega, BitVec.getLsbD_of_ge z (k + (2 * k + i)) (by omega)]
  cases z.getLsbD i <;> cases z.getLsbD (k + i) <;> cases z.getLsbD (2 * k + i) <;> rfl
theorem own_x (z : Int64) {k : Nat} (h1 : k < 32) (h : 64 ≤ 3 * k) : (z ^^^ lus z (Int32.ofNat k)) ^^^ lus (z ^^^ lus z (Int32.ofNat k)) (Int32.ofNat k) ^^^ lus (z ^^^ lus z (Int32.ofNat k)) (Int32.ofNat (2 * k)) = z := by
  apply Int64.toBitVec_inj.mp
  rw [Int64.toBitVec_xor, Int64.toBitVec_xor, lusB _ (show k < 64 by omega), lusB _ (show 2 * k < 64 by omega), Int64.toBitVec_xor, lusB _ (show k < 64 by omega)]
  exact own_xs z.toBitVec k h1 h
theorem own_x31 (z : Int64) : (z ^^^ lus z 31) ^^^ lus (z ^^^ lus z 31) 31 ^^^ lus (z ^^^ lus z 31) 62 = z := own_x z (k := 31) (by decide) (by decide)
theorem own_x27 (z : Int64) : (z ^^^ lus z 27) ^^^ lus (z ^^^ lus z 27) 27 ^^^ lus (z ^^^ lus z 27) 54 = z := own_x z (k := 27) (by decide) (by decide)
theorem own_x30 (z : Int64) : (z ^^^ lus z 30) ^^^ lus (z ^^^ lus z 30) 30 ^^^ lus (z ^^^ lus z 30) 60 = z := own_x z (k := 30) (by decide) (by decide)
theorem own_inv1 : (-7723592293110705685 : Int64) * own_inv (-7723592293110705685) = 1 := by decide +kernel
theorem own_inv2 : (-4658895280553007687 : Int64) * own_inv (-4658895280553007687) = 1 := by decide +kernel
theorem own_round (z : Int64) : own_un (own_mix z) = z := by
  have e1 : own_u1 (own_mix z) = own_m1 z ^^^ lus (own_m1 z) 27 := by
    unfold own_u1 own_mix
    rw [own_x31]
    unfold own_m2
    rw [Int64.mul_assoc, own_inv1, Int64.mul_one]
  have e2 : own_u2 (own_m1 z ^^^ lus (own_m1 z) 27) = z ^^^ lus z 30 := by
    unfold own_u2
    rw [own_x27]
    unfold own_m1
    rw [Int64.mul_assoc, own_inv2, Int64.mul_one]
  unfold own_un
  rw [e1, e2, own_x30]

theorem d1_0 : decode prog_68_method_1_code 0 = .ok (.aload_n 0, 1) := by decide +kernel
theorem d1_1 : decode prog_68_method_1_code 1 = .ok (.invokespecial 1, 3) := by decide +kernel
theorem d1_4 : decode prog_68_method_1_code 4 = .ok (.aload_n 0, 1) := by decide +kernel
theorem d1_5 : decode prog_68_method_1_code 5 = .ok (.lload_n 1, 1) := by decide +kernel
theorem d1_6 : decode prog_68_method_1_code 6 = .ok (.putfield 7, 3) := by decide +kernel
theorem d1_9 : decode prog_68_method_1_code 9 = .ok (.return_, 1) := by decide +kernel
theorem pn_1 : plainName "com/example/tinderset/tinderset/model/SplitMix64" = true := by first | (simp [plainName, overriddenIn]; done) | decide +kernel
theorem rm1_ef (m : MethodId) (a : Addr) (s1 : Int64) : entryFrame m #[(.ref a), (.long s1)] 3 = mkF m 0 #[.val (.ref a), .val (.long s1), .second] [] := by first | (simp [entryFrame, mkF, argsToLocals, Value.category]; done) | rfl
abbrev rm1_Q (Z : State) (a : Addr) (s1 : Int64) (h0 : Heap) (n0 : Nat) : Option Value → Heap → Prop := fun v h => v = none ∧ Keep h0 h [a] ∧ Fld Z h a "com/example/tinderset/tinderset/model/SplitMix64" "state" "J" (.long s1)
set_option maxRecDepth 65536 in
set_option maxHeartbeats 40000000 in
theorem rm1 (l : Launch) (Z : State) (a0 : Array Value) (hw : ∀ d ∈ tables_1, d.before a0 Z = true) (ws : List Jvm.Cond) (a : Addr) (s1 : Int64) (h : Heap) (n0 : Nat) (hn0 : n0 ≤ h.size) (E0 : Exa Z h a "com/example/tinderset/tinderset/model/SplitMix64") (F0_state : Fld Z h a "com/example/tinderset/tinderset/model/SplitMix64" "state" "J" (.long (0 : Int64))) (g0 : n0 ≤ a) :
    Ct l Z (⟨"com/example/tinderset/tinderset/model/SplitMix64", "<init>", "(J)V"⟩ : MethodName) prog_68_method_1_code 3 none ws ({ frames := 1, cells := 0, slots := 0, locals := 12 } : Room) #[(.ref a), (.long s1)] h n0 (rm1_Q Z a s1 h n0) := by
  refine Ct.of (plainFor_of_name pn_1) hn0 (fun m => rm1_ef m a s1) ?_
  intro p e s m below meth c T0 X0
  replace X0 : Sn Z n0 prog_68_method_1_code 3 "com/example/tinderset/tinderset/model/SplitMix64" "<init>" none p l e ({ frames := 1, cells := 0, slots := 0, locals := 12 } : Room) s m #[(.ref a), (.long s1)] below meth c T0 h 0 0 := X0
  have K0 := Keep.refl h [a]
  refine w_aloadN (pc' := 1) X0 d1_0 rfl rfl rfl ?_
  refine w_initO (pc' := 4) (wd := 0) X0 d1_1 (hw _ (List.mem_of_getElem? (i := 6) rfl)) (hw _ (List.mem_of_getElem? (i := 7) rfl)) (hw _ (List.mem_of_getElem? (i := 8) rfl)) rfl (Nat.le_of_eq rfl) (by decide) (fun T1 X1 => ?_)
  refine w_aloadN (pc' := 5) X1 d1_4 rfl rfl rfl ?_
  refine w_lloadN (pc' := 6) X1 d1_5 rfl rfl ?_
  refine w_putfield (pc' := 9) (ty := .long) (v' := (.long s1)) X1 F0_state E0 d1_6 (hw _ (List.mem_of_getElem? (i := 9) rfl)) Via.refl (Or.inl (hw _ (List.mem_of_getElem? (i := 10) rfl))) (hw _ (List.mem_of_getElem? (i := 1) rfl)) (by decide) rfl rfl rfl g0 (fun T2 h2 X2 W2 => ?_)
  have E3 := E0.wr W2
  have F2 := F0_state.same W2
  have K2 := K0.wr W2 (Or.inl (List.mem_of_getElem? (i := 0) rfl))
  exact w_return X2 d1_9 rfl (⟨rfl, K2, F2⟩)
theorem d3_0 : decode prog_68_method_2_code 0 = .ok (.aload_n 0, 1) := by decide +kernel
theorem d3_1 : decode prog_68_method_2_code 1 = .ok (.dup, 1) := by decide +kernel
theorem d3_2 : decode prog_68_method_2_code 2 = .ok (.getfield 7, 3) := by decide +kernel
theorem d3_5 : decode prog_68_method_2_code 5 = .ok (.ldc2_w 13, 3) := by decide +kernel
theorem d3_8 : decode prog_68_method_2_code 8 = .ok (.ladd, 1) := by decide +kernel
theorem d3_9 : decode prog_68_method_2_code 9 = .ok (.putfield 7, 3) := by decide +kernel
theorem d3_12 : decode prog_68_method_2_code 12 = .ok (.aload_n 0, 1) := by decide +kernel
theorem d3_13 : decode prog_68_method_2_code 13 = .ok (.getfield 7, 3) := by decide +kernel
theorem d3_16 : decode prog_68_method_2_code 16 = .ok (.lstore_n 1, 1) := by decide +kernel
theorem d3_17 : decode prog_68_method_2_code 17 = .ok (.lload_n 1, 1) := by decide +kernel
theorem d3_18 : decode prog_68_method_2_code 18 = .ok (.lload_n 1, 1) := by decide +kernel
theorem d3_19 : decode prog_68_method_2_code 19 = .ok (.bipush 30, 2) := by decide +kernel
theorem d3_21 : decode prog_68_method_2_code 21 = .ok (.lushr, 1) := by decide +kernel
theorem d3_22 : decode prog_68_method_2_code 22 = .ok (.lxor, 1) := by decide +kernel
theorem d3_23 : decode prog_68_method_2_code 23 = .ok (.ldc2_w 15, 3) := by decide +kernel
theorem d3_26 : decode prog_68_method_2_code 26 = .ok (.lmul, 1) := by decide +kernel
theorem d3_27 : decode prog_68_method_2_code 27 = .ok (.lstore_n 1, 1) := by decide +kernel
theorem d3_28 : decode prog_68_method_2_code 28 = .ok (.lload_n 1, 1) := by decide +kernel
theorem d3_29 : decode prog_68_method_2_code 29 = .ok (.lload_n 1, 1) := by decide +kernel
theorem d3_30 : decode prog_68_method_2_code 30 = .ok (.bipush 27, 2) := by decide +kernel
theorem d3_32 : decode prog_68_method_2_code 32 = .ok (.lushr, 1) := by decide +kernel
theorem d3_33 : decode prog_68_method_2_code 33 = .ok (.lxor, 1) := by decide +kernel
theorem d3_34 : decode prog_68_method_2_code 34 = .ok (.ldc2_w 17, 3) := by decide +kernel
theorem d3_37 : decode prog_68_method_2_code 37 = .ok (.lmul, 1) := by decide +kernel
theorem d3_38 : decode prog_68_method_2_code 38 = .ok (.lstore_n 1, 1) := by decide +kernel
theorem d3_39 : decode prog_68_method_2_code 39 = .ok (.lload_n 1, 1) := by decide +kernel
theorem d3_40 : decode prog_68_method_2_code 40 = .ok (.lload_n 1, 1) := by decide +kernel
theorem d3_41 : decode prog_68_method_2_code 41 = .ok (.bipush 31, 2) := by decide +kernel
theorem d3_43 : decode prog_68_method_2_code 43 = .ok (.lushr, 1) := by decide +kernel
theorem d3_44 : decode prog_68_method_2_code 44 = .ok (.lxor, 1) := by decide +kernel
theorem d3_45 : decode prog_68_method_2_code 45 = .ok (.lreturn, 1) := by decide +kernel
theorem rm3_ef (m : MethodId) (a : Addr) : entryFrame m #[(.ref a)] 3 = mkF m 0 #[.val (.ref a), .unset, .unset] [] := by first | (simp [entryFrame, mkF, argsToLocals, Value.category]; done) | rfl
abbrev rm3_Q (Z : State) (a : Addr) (sv : Int64) (h0 : Heap) (n0 : Nat) : Option Value → Heap → Prop := fun v h => v = some (.long (own_mix (sv + (-7046029254386353131)))) ∧ Keep h0 h [a] ∧ Fld Z h a "com/example/tinderset/tinderset/model/SplitMix64" "state" "J" (.long (sv + (-7046029254386353131)))
set_option maxRecDepth 65536 in
set_option maxHeartbeats 40000000 in
theorem rm3 (l : Launch) (Z : State) (a0 : Array Value) (hw : ∀ d ∈ tables_1, d.before a0 Z = true) (ws : List Jvm.Cond) (a : Addr) (sv : Int64) (h : Heap) (n0 : Nat) (hn0 : n0 ≤ h.size) (E0 : Exa Z h a "com/example/tinderset/tinderset/model/SplitMix64") (F0 : Fld Z h a "com/example/tinderset/tinderset/model/SplitMix64" "state" "J" (.long sv)) (g0 : n0 ≤ a) :
    Ct l Z (⟨"com/example/tinderset/tinderset/model/SplitMix64", "next", "()J"⟩ : MethodName) prog_68_method_2_code 3 (some .long) ws ({ frames := 0, cells := 0, slots := 0, locals := 0 } : Room) #[(.ref a)] h n0 (rm3_Q Z a sv h n0) := by
  refine Ct.of (plainFor_of_name pn_1) hn0 (fun m => rm3_ef m a) ?_
  intro p e s m below meth c T0 X0
  replace X0 : Sn Z n0 prog_68_method_2_code 3 "com/example/tinderset/tinderset/model/SplitMix64" "next" (some .long) p l e ({ frames := 0, cells := 0, slots := 0, locals := 0 } : Room) s m #[(.ref a)] below meth c T0 h 0 0 := X0
  have K0 := Keep.refl h [a]
  refine w_aloadN (pc' := 1) X0 d3_0 rfl rfl rfl ?_
  refine w_dup (pc' := 2) X0 d3_1 rfl rfl ?_
  refine w_getfield (pc' := 5) X0 F0 d3_2 (hw _ (List.mem_of_getElem? (i := 9) rfl)) Via.refl rfl (fun T1 X1 => ?_)
  refine w_ldc2 (pc' := 8) (z := (-7046029254386353131 : Int64)) X1 d3_5 (hw _ (List.mem_of_getElem? (i := 16) rfl)) rfl ?_
  refine w_ladd (pc' := 9) X1 d3_8 rfl ?_
  refine w_putfield (pc' := 12) (ty := .long) (v' := (.long (sv + (-7046029254386353131 : Int64)))) X1 F0 E0 d3_9 (hw _ (List.mem_of_getElem? (i := 9) rfl)) Via.refl (Or.inl (hw _ (List.mem_of_getElem? (i := 10) rfl))) (hw _ (List.mem_of_getElem? (i := 1) rfl)) (by decide) rfl rfl rfl g0 (fun T2 h2 X2 W2 => ?_)
  have E3 := E0.wr W2
  have F2 := F0.same W2
  have K2 := K0.wr W2 (Or.inl (List.mem_of_getElem? (i := 0) rfl))
  refine w_aloadN (pc' := 13) X2 d3_12 rfl rfl rfl ?_
  refine w_getfield (pc' := 16) X2 F2 d3_13 (hw _ (List.mem_of_getElem? (i := 9) rfl)) Via.refl rfl (fun T4 X4 => ?_)
  refine w_lstoreN (pc' := 17) (L' := #[.val (.ref a), .val (.long (sv + (-7046029254386353131 : Int64))), .second]) X4 d3_16 rfl rfl ?_
  refine w_lloadN (pc' := 18) X4 d3_17 rfl rfl ?_
  refine w_lloadN (pc' := 19) X4 d3_18 rfl rfl ?_
  refine w_bipush (pc' := 21) (z := (30 : Int32)) X4 d3_19 rfl rfl ?_
  refine w_lushr (pc' := 22) X4 d3_21 rfl ?_
  refine w_lxor (pc' := 23) X4 d3_22 rfl ?_
  refine w_ldc2 (pc' := 26) (z := (-4658895280553007687 : Int64)) X4 d3_23 (hw _ (List.mem_of_getElem? (i := 17) rfl)) rfl ?_
  refine w_lmul (pc' := 27) X4 d3_26 rfl ?_
  refine w_topJ (x' := (own_m1 (sv + (-7046029254386353131)))) (rfl) ?_
  refine w_lstoreN (pc' := 28) (L' := #[.val (.ref a), .val (.long (own_m1 (sv + (-7046029254386353131)))), .second]) X4 d3_27 rfl rfl ?_
  refine w_lloadN (pc' := 29) X4 d3_28 rfl rfl ?_
  refine w_lloadN (pc' := 30) X4 d3_29 rfl rfl ?_
  refine w_bipush (pc' := 32) (z := (27 : Int32)) X4 d3_30 rfl rfl ?_
  refine w_lushr (pc' := 33) X4 d3_32 rfl ?_
  refine w_lxor (pc' := 34) X4 d3_33 rfl ?_
  refine w_ldc2 (pc' := 37) (z := (-7723592293110705685 : Int64)) X4 d3_34 (hw _ (List.mem_of_getElem? (i := 18) rfl)) rfl ?_
  refine w_lmul (pc' := 38) X4 d3_37 rfl ?_
  refine w_topJ (x' := (own_m2 (own_m1 (sv + (-7046029254386353131))))) (rfl) ?_
  refine w_lstoreN (pc' := 39) (L' := #[.val (.ref a), .val (.long (own_m2 (own_m1 (sv + (-7046029254386353131))))), .second]) X4 d3_38 rfl rfl ?_
  refine w_lloadN (pc' := 40) X4 d3_39 rfl rfl ?_
  refine w_lloadN (pc' := 41) X4 d3_40 rfl rfl ?_
  refine w_bipush (pc' := 43) (z := (31 : Int32)) X4 d3_41 rfl rfl ?_
  refine w_lushr (pc' := 44) X4 d3_43 rfl ?_
  refine w_lxor (pc' := 45) X4 d3_44 rfl ?_
  exact w_lreturn X4 d3_45 rfl (⟨rfl, K2, F2⟩)
theorem d5_0 : decode method_2_code 0 = .ok (.lload_n 0, 1) := by decide +kernel
theorem d5_1 : decode method_2_code 1 = .ok (.lstore_n 2, 1) := by decide +kernel
theorem d5_2 : decode method_2_code 2 = .ok (.lload_n 2, 1) := by decide +kernel
theorem d5_3 : decode method_2_code 3 = .ok (.ldc2_w 7, 3) := by decide +kernel
theorem d5_6 : decode method_2_code 6 = .ok (.lload_n 0, 1) := by decide +kernel
theorem d5_7 : decode method_2_code 7 = .ok (.lload_n 2, 1) := by decide +kernel
theorem d5_8 : decode method_2_code 8 = .ok (.lmul, 1) := by decide +kernel
theorem d5_9 : decode method_2_code 9 = .ok (.lsub, 1) := by decide +kernel
theorem d5_10 : decode method_2_code 10 = .ok (.lmul, 1) := by decide +kernel
theorem d5_11 : decode method_2_code 11 = .ok (.lstore_n 2, 1) := by decide +kernel
theorem d5_12 : decode method_2_code 12 = .ok (.lload_n 2, 1) := by decide +kernel
theorem d5_13 : decode method_2_code 13 = .ok (.ldc2_w 7, 3) := by decide +kernel
theorem d5_16 : decode method_2_code 16 = .ok (.lload_n 0, 1) := by decide +kernel
theorem d5_17 : decode method_2_code 17 = .ok (.lload_n 2, 1) := by decide +kernel
theorem d5_18 : decode method_2_code 18 = .ok (.lmul, 1) := by decide +kernel
theorem d5_19 : decode method_2_code 19 = .ok (.lsub, 1) := by decide +kernel
theorem d5_20 : decode method_2_code 20 = .ok (.lmul, 1) := by decide +kernel
theorem d5_21 : decode method_2_code 21 = .ok (.lstore_n 2, 1) := by decide +kernel
theorem d5_22 : decode method_2_code 22 = .ok (.lload_n 2, 1) := by decide +kernel
theorem d5_23 : decode method_2_code 23 = .ok (.ldc2_w 7, 3) := by decide +kernel
theorem d5_26 : decode method_2_code 26 = .ok (.lload_n 0, 1) := by decide +kernel
theorem d5_27 : decode method_2_code 27 = .ok (.lload_n 2, 1) := by decide +kernel
theorem d5_28 : decode method_2_code 28 = .ok (.lmul, 1) := by decide +kernel
theorem d5_29 : decode method_2_code 29 = .ok (.lsub, 1) := by decide +kernel
theorem d5_30 : decode method_2_code 30 = .ok (.lmul, 1) := by decide +kernel
theorem d5_31 : decode method_2_code 31 = .ok (.lstore_n 2, 1) := by decide +kernel
theorem d5_32 : decode method_2_code 32 = .ok (.lload_n 2, 1) := by decide +kernel
theorem d5_33 : decode method_2_code 33 = .ok (.ldc2_w 7, 3) := by decide +kernel
theorem d5_36 : decode method_2_code 36 = .ok (.lload_n 0, 1) := by decide +kernel
theorem d5_37 : decode method_2_code 37 = .ok (.lload_n 2, 1) := by decide +kernel
theorem d5_38 : decode method_2_code 38 = .ok (.lmul, 1) := by decide +kernel
theorem d5_39 : decode method_2_code 39 = .ok (.lsub, 1) := by decide +kernel
theorem d5_40 : decode method_2_code 40 = .ok (.lmul, 1) := by decide +kernel
theorem d5_41 : decode method_2_code 41 = .ok (.lstore_n 2, 1) := by decide +kernel
theorem d5_42 : decode method_2_code 42 = .ok (.lload_n 2, 1) := by decide +kernel
theorem d5_43 : decode method_2_code 43 = .ok (.ldc2_w 7, 3) := by decide +kernel
theorem d5_46 : decode method_2_code 46 = .ok (.lload_n 0, 1) := by decide +kernel
theorem d5_47 : decode method_2_code 47 = .ok (.lload_n 2, 1) := by decide +kernel
theorem d5_48 : decode method_2_code 48 = .ok (.lmul, 1) := by decide +kernel
theorem d5_49 : decode method_2_code 49 = .ok (.lsub, 1) := by decide +kernel
theorem d5_50 : decode method_2_code 50 = .ok (.lmul, 1) := by decide +kernel
theorem d5_51 : decode method_2_code 51 = .ok (.lstore_n 2, 1) := by decide +kernel
theorem d5_52 : decode method_2_code 52 = .ok (.lload_n 2, 1) := by decide +kernel
theorem d5_53 : decode method_2_code 53 = .ok (.lreturn, 1) := by decide +kernel
theorem pn_5 : plainName "com/example/tinderset/tinderset/model/SplitMix64NextPinLaw" = true := by first | (simp [plainName, overriddenIn]; done) | decide +kernel
theorem rm5_ef (m : MethodId) (c0 : Int64) : entryFrame m #[(.long c0)] 4 = mkF m 0 #[.val (.long c0), .second, .unset, .unset] [] := by first | (simp [entryFrame, mkF, argsToLocals, Value.category]; done) | rfl
abbrev rm5_Q (Z : State) (c0 : Int64) (h0 : Heap) (n0 : Nat) : Option Value → Heap → Prop := fun v h => v = some (.long (own_inv c0)) ∧ h0 = h
set_option maxRecDepth 65536 in
set_option maxHeartbeats 40000000 in
theorem rm5 (l : Launch) (Z : State) (a0 : Array Value) (hw : ∀ d ∈ tables_1, d.before a0 Z = true) (ws : List Jvm.Cond) (c0 : Int64) (h : Heap) (n0 : Nat) (hn0 : n0 ≤ h.size) :
    Ct l Z (⟨"com/example/tinderset/tinderset/model/SplitMix64NextPinLaw", "inv", "(J)J"⟩ : MethodName) method_2_code 4 (some .long) ws ({ frames := 0, cells := 0, slots := 0, locals := 0 } : Room) #[(.long c0)] h n0 (rm5_Q Z c0 h n0) := by
  refine Ct.of (plainFor_of_name pn_5) hn0 (fun m => rm5_ef m c0) ?_
  intro p e s m below meth c T0 X0
  replace X0 : Sn Z n0 method_2_code 4 "com/example/tinderset/tinderset/model/SplitMix64NextPinLaw" "inv" (some .long) p l e ({ frames := 0, cells := 0, slots := 0, locals := 0 } : Room) s m #[(.long c0)] below meth c T0 h 0 0 := X0
  refine w_lloadN (pc' := 1) X0 d5_0 rfl rfl ?_
  refine w_lstoreN (pc' := 2) (L' := #[.val (.long c0), .second, .val (.long c0), .second]) X0 d5_1 rfl rfl ?_
  refine w_lloadN (pc' := 3) X0 d5_2 rfl rfl ?_
  refine w_ldc2 (pc' := 6) (z := (2 : Int64)) X0 d5_3 (hw _ (List.mem_of_getElem? (i := 27) rfl)) rfl ?_
  refine w_lloadN (pc' := 7) X0 d5_6 rfl rfl ?_
  refine w_lloadN (pc' := 8) X0 d5_7 rfl rfl ?_
  refine w_lmul (pc' := 9) X0 d5_8 rfl ?_
  refine w_lsub (pc' := 10) X0 d5_9 rfl ?_
  refine w_lmul (pc' := 11) X0 d5_10 rfl ?_
  refine w_topJ (x' := (own_i c0 c0)) (rfl) ?_
  refine w_lstoreN (pc' := 12) (L' := #[.val (.long c0), .second, .val (.long (own_i c0 c0)), .second]) X0 d5_11 rfl rfl ?_
  refine w_lloadN (pc' := 13) X0 d5_12 rfl rfl ?_
  refine w_ldc2 (pc' := 16) (z := (2 : Int64)) X0 d5_13 (hw _ (List.mem_of_getElem? (i := 27) rfl)) rfl ?_
  refine w_lloadN (pc' := 17) X0 d5_16 rfl rfl ?_
  refine w_lloadN (pc' := 18) X0 d5_17 rfl rfl ?_
  refine w_lmul (pc' := 19) X0 d5_18 rfl ?_
  refine w_lsub (pc' := 20) X0 d5_19 rfl ?_
  refine w_lmul (pc' := 21) X0 d5_20 rfl ?_
  refine w_topJ (x' := (own_i c0 (own_i c0 c0))) (rfl) ?_
  refine w_lstoreN (pc' := 22) (L' := #[.val (.long c0), .second, .val (.long (own_i c0 (own_i c0 c0))), .second]) X0 d5_21 rfl rfl ?_
  refine w_lloadN (pc' := 23) X0 d5_22 rfl rfl ?_
  refine w_ldc2 (pc' := 26) (z := (2 : Int64)) X0 d5_23 (hw _ (List.mem_of_getElem? (i := 27) rfl)) rfl ?_
  refine w_lloadN (pc' := 27) X0 d5_26 rfl rfl ?_
  refine w_lloadN (pc' := 28) X0 d5_27 rfl rfl ?_
  refine w_lmul (pc' := 29) X0 d5_28 rfl ?_
  refine w_lsub (pc' := 30) X0 d5_29 rfl ?_
  refine w_lmul (pc' := 31) X0 d5_30 rfl ?_
  refine w_topJ (x' := (own_i c0 (own_i c0 (own_i c0 c0)))) (rfl) ?_
  refine w_lstoreN (pc' := 32) (L' := #[.val (.long c0), .second, .val (.long (own_i c0 (own_i c0 (own_i c0 c0)))), .second]) X0 d5_31 rfl rfl ?_
  refine w_lloadN (pc' := 33) X0 d5_32 rfl rfl ?_
  refine w_ldc2 (pc' := 36) (z := (2 : Int64)) X0 d5_33 (hw _ (List.mem_of_getElem? (i := 27) rfl)) rfl ?_
  refine w_lloadN (pc' := 37) X0 d5_36 rfl rfl ?_
  refine w_lloadN (pc' := 38) X0 d5_37 rfl rfl ?_
  refine w_lmul (pc' := 39) X0 d5_38 rfl ?_
  refine w_lsub (pc' := 40) X0 d5_39 rfl ?_
  refine w_lmul (pc' := 41) X0 d5_40 rfl ?_
  refine w_topJ (x' := (own_i c0 (own_i c0 (own_i c0 (own_i c0 c0))))) (rfl) ?_
  refine w_lstoreN (pc' := 42) (L' := #[.val (.long c0), .second, .val (.long (own_i c0 (own_i c0 (own_i c0 (own_i c0 c0))))), .second]) X0 d5_41 rfl rfl ?_
  refine w_lloadN (pc' := 43) X0 d5_42 rfl rfl ?_
  refine w_ldc2 (pc' := 46) (z := (2 : Int64)) X0 d5_43 (hw _ (List.mem_of_getElem? (i := 27) rfl)) rfl ?_
  refine w_lloadN (pc' := 47) X0 d5_46 rfl rfl ?_
  refine w_lloadN (pc' := 48) X0 d5_47 rfl rfl ?_
  refine w_lmul (pc' := 49) X0 d5_48 rfl ?_
  refine w_lsub (pc' := 50) X0 d5_49 rfl ?_
  refine w_lmul (pc' := 51) X0 d5_50 rfl ?_
  refine w_topJ (x' := (own_i c0 (own_i c0 (own_i c0 (own_i c0 (own_i c0 c0)))))) (rfl) ?_
  refine w_lstoreN (pc' := 52) (L' := #[.val (.long c0), .second, .val (.long (own_i c0 (own_i c0 (own_i c0 (own_i c0 (own_i c0 c0)))))), .second]) X0 d5_51 rfl rfl ?_
  refine w_lloadN (pc' := 53) X0 d5_52 rfl rfl ?_
  exact w_lreturn X0 d5_53 rfl (⟨rfl, rfl⟩)
theorem pd_83 : parseMethodDescriptor "(J)J" = some ⟨[.long], some .long⟩ := by decide +kernel
theorem d4_0 : decode method_3_code 0 = .ok (.lload_n 0, 1) := by decide +kernel
theorem d4_1 : decode method_3_code 1 = .ok (.lload_n 0, 1) := by decide +kernel
theorem d4_2 : decode method_3_code 2 = .ok (.bipush 31, 2) := by decide +kernel
theorem d4_4 : decode method_3_code 4 = .ok (.lushr, 1) := by decide +kernel
theorem d4_5 : decode method_3_code 5 = .ok (.lxor, 1) := by decide +kernel
theorem d4_6 : decode method_3_code 6 = .ok (.lload_n 0, 1) := by decide +kernel
theorem d4_7 : decode method_3_code 7 = .ok (.bipush 62, 2) := by decide +kernel
theorem d4_9 : decode method_3_code 9 = .ok (.lushr, 1) := by decide +kernel
theorem d4_10 : decode method_3_code 10 = .ok (.lxor, 1) := by decide +kernel
theorem d4_11 : decode method_3_code 11 = .ok (.lstore_n 2, 1) := by decide +kernel
theorem d4_12 : decode method_3_code 12 = .ok (.lload_n 2, 1) := by decide +kernel
theorem d4_13 : decode method_3_code 13 = .ok (.ldc2_w 9, 3) := by decide +kernel
theorem d4_16 : decode method_3_code 16 = .ok (.invokestatic 11, 3) := by decide +kernel
theorem d4_19 : decode method_3_code 19 = .ok (.lmul, 1) := by decide +kernel
theorem d4_20 : decode method_3_code 20 = .ok (.lstore_n 2, 1) := by decide +kernel
theorem d4_21 : decode method_3_code 21 = .ok (.lload_n 2, 1) := by decide +kernel
theorem d4_22 : decode method_3_code 22 = .ok (.lload_n 2, 1) := by decide +kernel
theorem d4_23 : decode method_3_code 23 = .ok (.bipush 27, 2) := by decide +kernel
theorem d4_25 : decode method_3_code 25 = .ok (.lushr, 1) := by decide +kernel
theorem d4_26 : decode method_3_code 26 = .ok (.lxor, 1) := by decide +kernel
theorem d4_27 : decode method_3_code 27 = .ok (.lload_n 2, 1) := by decide +kernel
theorem d4_28 : decode method_3_code 28 = .ok (.bipush 54, 2) := by decide +kernel
theorem d4_30 : decode method_3_code 30 = .ok (.lushr, 1) := by decide +kernel
theorem d4_31 : decode method_3_code 31 = .ok (.lxor, 1) := by decide +kernel
theorem d4_32 : decode method_3_code 32 = .ok (.lstore_n 2, 1) := by decide +kernel
theorem d4_33 : decode method_3_code 33 = .ok (.lload_n 2, 1) := by decide +kernel
theorem d4_34 : decode method_3_code 34 = .ok (.ldc2_w 17, 3) := by decide +kernel
theorem d4_37 : decode method_3_code 37 = .ok (.invokestatic 11, 3) := by decide +kernel
theorem d4_40 : decode method_3_code 40 = .ok (.lmul, 1) := by decide +kernel
theorem d4_41 : decode method_3_code 41 = .ok (.lstore_n 2, 1) := by decide +kernel
theorem d4_42 : decode method_3_code 42 = .ok (.lload_n 2, 1) := by decide +kernel
theorem d4_43 : decode method_3_code 43 = .ok (.lload_n 2, 1) := by decide +kernel
theorem d4_44 : decode method_3_code 44 = .ok (.bipush 30, 2) := by decide +kernel
theorem d4_46 : decode method_3_code 46 = .ok (.lushr, 1) := by decide +kernel
theorem d4_47 : decode method_3_code 47 = .ok (.lxor, 1) := by decide +kernel
theorem d4_48 : decode method_3_code 48 = .ok (.lload_n 2, 1) := by decide +kernel
theorem d4_49 : decode method_3_code 49 = .ok (.bipush 60, 2) := by decide +kernel
theorem d4_51 : decode method_3_code 51 = .ok (.lushr, 1) := by decide +kernel
theorem d4_52 : decode method_3_code 52 = .ok (.lxor, 1) := by decide +kernel
theorem d4_53 : decode method_3_code 53 = .ok (.lstore_n 2, 1) := by decide +kernel
theorem d4_54 : decode method_3_code 54 = .ok (.lload_n 2, 1) := by decide +kernel
theorem d4_55 : decode method_3_code 55 = .ok (.lreturn, 1) := by decide +kernel
theorem rm4_ef (m : MethodId) (y0 : Int64) : entryFrame m #[(.long y0)] 4 = mkF m 0 #[.val (.long y0), .second, .unset, .unset] [] := by first | (simp [entryFrame, mkF, argsToLocals, Value.category]; done) | rfl
abbrev rm4_Q (Z : State) (y0 : Int64) (h0 : Heap) (n0 : Nat) : Option Value → Heap → Prop := fun v h => v = some (.long (own_un y0)) ∧ h0 = h
set_option maxRecDepth 65536 in
set_option maxHeartbeats 40000000 in
theorem rm4 (l : Launch) (Z : State) (a0 : Array Value) (hw : ∀ d ∈ tables_1, d.before a0 Z = true) (ws : List Jvm.Cond) (y0 : Int64) (h : Heap) (n0 : Nat) (hn0 : n0 ≤ h.size) :
    Ct l Z (⟨"com/example/tinderset/tinderset/model/SplitMix64NextPinLaw", "unmix", "(J)J"⟩ : MethodName) method_3_code 4 (some .long) ws ({ frames := 1, cells := 0, slots := 0, locals := 17 } : Room) #[(.long y0)] h n0 (rm4_Q Z y0 h n0) := by
  refine Ct.of (plainFor_of_name pn_5) hn0 (fun m => rm4_ef m y0) ?_
  intro p e s m below meth c T0 X0
  replace X0 : Sn Z n0 method_3_code 4 "com/example/tinderset/tinderset/model/SplitMix64NextPinLaw" "unmix" (some .long) p l e ({ frames := 1, cells := 0, slots := 0, locals := 17 } : Room) s m #[(.long y0)] below meth c T0 h 0 0 := X0
  refine w_lloadN (pc' := 1) X0 d4_0 rfl rfl ?_
  refine w_lloadN (pc' := 2) X0 d4_1 rfl rfl ?_
  refine w_bipush (pc' := 4) (z := (31 : Int32)) X0 d4_2 rfl rfl ?_
  refine w_lushr (pc' := 5) X0 d4_4 rfl ?_
  refine w_lxor (pc' := 6) X0 d4_5 rfl ?_
  refine w_lloadN (pc' := 7) X0 d4_6 rfl rfl ?_
  refine w_bipush (pc' := 9) (z := (62 : Int32)) X0 d4_7 rfl rfl ?_
  refine w_lushr (pc' := 10) X0 d4_9 rfl ?_
  refine w_lxor (pc' := 11) X0 d4_10 rfl ?_
  refine w_lstoreN (pc' := 12) (L' := #[.val (.long y0), .second, .val (.long ((y0 ^^^ (lus y0 (31 : Int32))) ^^^ (lus y0 (62 : Int32)))), .second]) X0 d4_11 rfl rfl ?_
  refine w_lloadN (pc' := 13) X0 d4_12 rfl rfl ?_
  refine w_ldc2 (pc' := 16) (z := (-7723592293110705685 : Int64)) X0 d4_13 (hw _ (List.mem_of_getElem? (i := 23) rfl)) rfl ?_
  refine w_callS (pc' := 19) (wd := 2) (argsL := [(.long (-7723592293110705685 : Int64))]) (rest := [(.long ((y0 ^^^ (lus y0 (31 : Int32))) ^^^ (lus y0 (62 : Int32))))]) (Q2 := (rm5_Q Z (-7723592293110705685 : Int64) h n0)) X0 d4_16 (hw _ (List.mem_of_getElem? (i := 24) rfl)) (hw _ (List.mem_of_getElem? (i := 25) rfl)) (hw _ (List.mem_of_getElem? (i := 21) rfl)) (hw _ (List.mem_of_getElem? (i := 26) rfl)) (by decide) (rm5 l Z a0 hw [] (-7723592293110705685 : Int64) h n0 X0.size) pd_83 rfl rfl rfl (Nat.le_of_eq rfl) (by decide) (fun v1 T1 h1 X1 q1 => ?_)
  obtain ⟨rfl, rfl⟩ := q1
  refine w_lmul (pc' := 20) X1 d4_19 rfl ?_
  refine w_topJ (x' := (own_u1 y0)) (rfl) ?_
  refine w_lstoreN (pc' := 21) (L' := #[.val (.long y0), .second, .val (.long (own_u1 y0)), .second]) X1 d4_20 rfl rfl ?_
  refine w_lloadN (pc' := 22) X1 d4_21 rfl rfl ?_
  refine w_lloadN (pc' := 23) X1 d4_22 rfl rfl ?_
  refine w_bipush (pc' := 25) (z := (27 : Int32)) X1 d4_23 rfl rfl ?_
  refine w_lushr (pc' := 26) X1 d4_25 rfl ?_
  refine w_lxor (pc' := 27) X1 d4_26 rfl ?_
  refine w_lloadN (pc' := 28) X1 d4_27 rfl rfl ?_
  refine w_bipush (pc' := 30) (z := (54 : Int32)) X1 d4_28 rfl rfl ?_
  refine w_lushr (pc' := 31) X1 d4_30 rfl ?_
  refine w_lxor (pc' := 32) X1 d4_31 rfl ?_
  refine w_lstoreN (pc' := 33) (L' := #[.val (.long y0), .second, .val (.long (((own_u1 y0) ^^^ (lus (own_u1 y0) (27 : Int32))) ^^^ (lus (own_u1 y0) (54 : Int32)))), .second]) X1 d4_32 rfl rfl ?_
  refine w_lloadN (pc' := 34) X1 d4_33 rfl rfl ?_
  refine w_ldc2 (pc' := 37) (z := (-4658895280553007687 : Int64)) X1 d4_34 (hw _ (List.mem_of_getElem? (i := 28) rfl)) rfl ?_
  refine w_callS (pc' := 40) (wd := 2) (argsL := [(.long (-4658895280553007687 : Int64))]) (rest := [(.long (((own_u1 y0) ^^^ (lus (own_u1 y0) (27 : Int32))) ^^^ (lus (own_u1 y0) (54 : Int32))))]) (Q2 := (rm5_Q Z (-4658895280553007687 : Int64) h n0)) X1 d4_37 (hw _ (List.mem_of_getElem? (i := 24) rfl)) (hw _ (List.mem_of_getElem? (i := 25) rfl)) (hw _ (List.mem_of_getElem? (i := 21) rfl)) (hw _ (List.mem_of_getElem? (i := 26) rfl)) (by decide) (rm5 l Z a0 hw [] (-4658895280553007687 : Int64) h n0 X1.size) pd_83 rfl rfl rfl (Nat.le_of_eq rfl) (by decide) (fun v2 T2 h2 X2 q2 => ?_)
  obtain ⟨rfl, rfl⟩ := q2
  refine w_lmul (pc' := 41) X2 d4_40 rfl ?_
  refine w_topJ (x' := (own_u2 (own_u1 y0))) (rfl) ?_
  refine w_lstoreN (pc' := 42) (L' := #[.val (.long y0), .second, .val (.long (own_u2 (own_u1 y0))), .second]) X2 d4_41 rfl rfl ?_
  refine w_lloadN (pc' := 43) X2 d4_42 rfl rfl ?_
  refine w_lloadN (pc' := 44) X2 d4_43 rfl rfl ?_
  refine w_bipush (pc' := 46) (z := (30 : Int32)) X2 d4_44 rfl rfl ?_
  refine w_lushr (pc' := 47) X2 d4_46 rfl ?_
  refine w_lxor (pc' := 48) X2 d4_47 rfl ?_
  refine w_lloadN (pc' := 49) X2 d4_48 rfl rfl ?_
  refine w_bipush (pc' := 51) (z := (60 : Int32)) X2 d4_49 rfl rfl ?_
  refine w_lushr (pc' := 52) X2 d4_51 rfl ?_
  refine w_lxor (pc' := 53) X2 d4_52 rfl ?_
  refine w_topJ (x' := (own_un y0)) (rfl) ?_
  refine w_lstoreN (pc' := 54) (L' := #[.val (.long y0), .second, .val (.long (own_un y0)), .second]) X2 d4_53 rfl rfl ?_
  refine w_lloadN (pc' := 55) X2 d4_54 rfl rfl ?_
  exact w_lreturn X2 d4_55 rfl (⟨rfl, rfl⟩)
theorem pd_126 : parseMethodDescriptor "(J)V" = some ⟨[.long], none⟩ := by decide +kernel
theorem pd_127 : parseMethodDescriptor "()J" = some ⟨[], some .long⟩ := by decide +kernel
theorem rm0_ef (m : MethodId) (seed : Int64) : entryFrame m #[(.long seed)] 9 = mkF m 0 #[.val (.long seed), .second, .unset, .unset, .unset, .unset, .unset, .unset, .unset] [] := by first | (simp [entryFrame, mkF, argsToLocals, Value.category]; done) | rfl
abbrev rm0_Q (Z : State) (seed : Int64) (h0 : Heap) (n0 : Nat) : Option Value → Heap → Prop := fun v h => v = some (.int 1)
set_option maxRecDepth 65536 in
set_option maxHeartbeats 40000000 in
theorem rm0 (l : Launch) (Z : State) (a0 : Array Value) (hw : ∀ d ∈ tables_1, d.before a0 Z = true) (ws : List Jvm.Cond) (seed : Int64) (h : Heap) (n0 : Nat) (hn0 : n0 ≤ h.size) :
    Ct l Z x code maxLocals ret ws room_1 #[(.long seed)] h n0 (rm0_Q Z seed h n0) := by
  refine Ct.of (plainFor_of_name pn_5) hn0 (fun m => rm0_ef m seed) ?_
  intro p e s m below meth c T0 X0
  replace X0 : Sn Z n0 code 9 "com/example/tinderset/tinderset/model/SplitMix64NextPinLaw" "law" (some .boolean) p l e room_1 s m #[(.long seed)] below meth c T0 h 0 0 := X0
  refine w_new (pc' := 3) X0 at_0 (hw _ (List.mem_of_getElem? (i := 0) rfl)) (hw _ (List.mem_of_getElem? (i := 1) rfl)) (hw _ (List.mem_of_getElem? (i := 2) rfl)) (by decide) (fun T1 h1 b1 X1 E1 q1 g1 A1 D1 => ?_)
  have F2 : Fld Z h1 b1 "com/example/tinderset/tinderset/model/SplitMix64" "state" "J" (.long (0 : Int64)) := D1 (Or.inl (hw _ (List.mem_of_getElem? (i := 10) rfl))) (ty := .long) (by decide)
  refine w_dup (pc' := 4) X1 at_3 rfl rfl ?_
  refine w_lloadN (pc' := 5) X1 at_4 rfl rfl ?_
  refine w_callC (pc' := 8) (wd := 1) (argsL := [(.long seed)]) (rest := [(.ref b1)]) (Q2 := (rm1_Q Z b1 seed h1 n0)) (a := b1) X1 rfl at_5 (hw _ (List.mem_of_getElem? (i := 3) rfl)) (hw _ (List.mem_of_getElem? (i := 4) rfl)) (hw _ (List.mem_of_getElem? (i := 2) rfl)) (hw _ (List.mem_of_getElem? (i := 5) rfl)) (by decide) (rm1 l Z a0 hw [] b1 seed h1 n0 X1.size A1 F2 g1) pd_126 rfl rfl rfl (Nat.le_of_eq rfl) (by decide) (fun v3 T3 h3 X3 q3 => ?_)
  obtain ⟨rfl, Kc3, Fc3_0⟩ := q3
  have E4 := A1.keep Kc3
  refine w_astoreN (pc' := 9) (L' := #[.val (.long seed), .second, .val (.ref b1), .unset, .unset, .unset, .unset, .unset, .unset]) X3 at_8 rfl rfl rfl ?_
  refine w_aloadN (pc' := 10) X3 at_9 rfl rfl rfl ?_
  refine w_callV (pc' := 13) (wd := 0) (argsL := []) (rest := []) (Q2 := (rm3_Q Z b1 seed h3 n0)) (a := b1) X3 E4 at_10 (hw _ (List.mem_of_getElem? (i := 11) rfl)) (hw _ (List.mem_of_getElem? (i := 12) rfl)) (hw _ (List.mem_of_getElem? (i := 14) rfl)) (hw _ (List.mem_of_getElem? (i := 13) rfl)) (hw _ (List.mem_of_getElem? (i := 2) rfl)) (hw _ (List.mem_of_getElem? (i := 15) rfl)) (by decide) (rm3 l Z a0 hw [] b1 seed h3 n0 X3.size E4 Fc3_0 g1) pd_127 rfl rfl rfl (Nat.le_of_eq rfl) (by decide) (fun v5 T5 h5 X5 q5 => ?_)
  obtain ⟨rfl, Kc5, Fc5⟩ := q5
  have E6 := E4.keep Kc5
  refine w_lstoreN (pc' := 14) (L' := #[.val (.long seed), .second, .val (.ref b1), .val (.long (own_mix (seed + (-7046029254386353131)))), .second, .unset, .unset, .unset, .unset]) X5 at_13 rfl rfl ?_
  refine w_aloadN (pc' := 15) X5 at_14 rfl rfl rfl ?_
  refine w_callV (pc' := 18) (wd := 0) (argsL := []) (rest := []) (Q2 := (rm3_Q Z b1 (seed + (-7046029254386353131)) h5 n0)) (a := b1) X5 E6 at_15 (hw _ (List.mem_of_getElem? (i := 11) rfl)) (hw _ (List.mem_of_getElem? (i := 12) rfl)) (hw _ (List.mem_of_getElem? (i := 14) rfl)) (hw _ (List.mem_of_getElem? (i := 13) rfl)) (hw _ (List.mem_of_getElem? (i := 2) rfl)) (hw _ (List.mem_of_getElem? (i := 15) rfl)) (by decide) (rm3 l Z a0 hw [] b1 (seed + (-7046029254386353131)) h5 n0 X5.size E6 Fc5 g1) pd_127 rfl rfl rfl (Nat.le_of_eq rfl) (by decide) (fun v7 T7 h7 X7 q7 => ?_)
  obtain ⟨rfl, Kc7, Fc7⟩ := q7
  have E8 := E6.keep Kc7
  refine w_lstore (pc' := 20) (L' := #[.val (.long seed), .second, .val (.ref b1), .val (.long (own_mix (seed + (-7046029254386353131)))), .second, .val (.long (own_mix ((seed + (-7046029254386353131)) + (-7046029254386353131)))), .second, .unset, .unset]) X7 at_18 rfl rfl ?_
  refine w_aloadN (pc' := 21) X7 at_20 rfl rfl rfl ?_
  refine w_callV (pc' := 24) (wd := 0) (argsL := []) (rest := []) (Q2 := (rm3_Q Z b1 ((seed + (-7046029254386353131)) + (-7046029254386353131)) h7 n0)) (a := b1) X7 E8 at_21 (hw _ (List.mem_of_getElem? (i := 11) rfl)) (hw _ (List.mem_of_getElem? (i := 12) rfl)) (hw _ (List.mem_of_getElem? (i := 14) rfl)) (hw _ (List.mem_of_getElem? (i := 13) rfl)) (hw _ (List.mem_of_getElem? (i := 2) rfl)) (hw _ (List.mem_of_getElem? (i := 15) rfl)) (by decide) (rm3 l Z a0 hw [] b1 ((seed + (-7046029254386353131)) + (-7046029254386353131)) h7 n0 X7.size E8 Fc7 g1) pd_127 rfl rfl rfl (Nat.le_of_eq rfl) (by decide) (fun v9 T9 h9 X9 q9 => ?_)
  obtain ⟨rfl, Kc9, Fc9⟩ := q9
  have E10 := E8.keep Kc9
  refine w_lstore (pc' := 26) (L' := #[.val (.long seed), .second, .val (.ref b1), .val (.long (own_mix (seed + (-7046029254386353131)))), .second, .val (.long (own_mix ((seed + (-7046029254386353131)) + (-7046029254386353131)))), .second, .val (.long (own_mix (((seed + (-7046029254386353131)) + (-7046029254386353131)) + (-7046029254386353131)))), .second]) X9 at_24 rfl rfl ?_
  refine w_lloadN (pc' := 27) X9 at_26 rfl rfl ?_
  refine w_callS (pc' := 30) (wd := 0) (argsL := [(.long (own_mix (seed + (-7046029254386353131))))]) (rest := []) (Q2 := (rm4_Q Z (own_mix (seed + (-7046029254386353131))) h9 n0)) X9 at_27 (hw _ (List.mem_of_getElem? (i := 19) rfl)) (hw _ (List.mem_of_getElem? (i := 20) rfl)) (hw _ (List.mem_of_getElem? (i := 21) rfl)) (hw _ (List.mem_of_getElem? (i := 22) rfl)) (by decide) (rm4 l Z a0 hw [] (own_mix (seed + (-7046029254386353131))) h9 n0 X9.size) pd_83 rfl rfl rfl (Nat.le_of_eq rfl) (by decide) (fun v11 T11 h11 X11 q11 => ?_)
  obtain ⟨rfl, rfl⟩ := q11
  refine w_lloadN (pc' := 31) X11 at_30 rfl rfl ?_
  refine w_ldc2 (pc' := 34) (z := (-7046029254386353131 : Int64)) X11 at_31 (hw _ (List.mem_of_getElem? (i := 29) rfl)) rfl ?_
  refine w_ladd (pc' := 35) X11 at_34 rfl ?_
  refine w_lcif_ne (pc' := 36) (pc1 := 71) (pc2 := 39) X11 at_35 at_36 (by decide) (fun (hc36 : (own_un (own_mix (seed + (-7046029254386353131)))) ≠ (seed + (-7046029254386353131 : Int64))) => absurd (own_round _) hc36) (fun (hc36 : (own_un (own_mix (seed + (-7046029254386353131)))) = (seed + (-7046029254386353131 : Int64))) => ?_)
  refine w_lload (pc' := 41) X11 at_39 rfl rfl ?_
  refine w_callS (pc' := 44) (wd := 0) (argsL := [(.long (own_mix ((seed + (-7046029254386353131)) + (-7046029254386353131))))]) (rest := []) (Q2 := (rm4_Q Z (own_mix ((seed + (-7046029254386353131)) + (-7046029254386353131))) h9 n0)) X11 at_41 (hw _ (List.mem_of_getElem? (i := 19) rfl)) (hw _ (List.mem_of_getElem? (i := 20) rfl)) (hw _ (List.mem_of_getElem? (i := 21) rfl)) (hw _ (List.mem_of_getElem? (i := 22) rfl)) (by decide) (rm4 l Z a0 hw [] (own_mix ((seed + (-7046029254386353131)) + (-7046029254386353131))) h9 n0 X11.size) pd_83 rfl rfl rfl (Nat.le_of_eq rfl) (by decide) (fun v12 T12 h12 X12 q12 => ?_)
  obtain ⟨rfl, rfl⟩ := q12
  refine w_lloadN (pc' := 45) X12 at_44 rfl rfl ?_
  refine w_ldc2 (pc' := 48) (z := (4354685564936845354 : Int64)) X12 at_45 (hw _ (List.mem_of_getElem? (i := 30) rfl)) rfl ?_
  refine w_ladd (pc' := 49) X12 at_48 rfl ?_
  refine w_lcif_ne (pc' := 50) (pc1 := 71) (pc2 := 53) X12 at_49 at_50 (by decide) (fun (hc50 : (own_un (own_mix ((seed + (-7046029254386353131)) + (-7046029254386353131)))) ≠ (seed + (4354685564936845354 : Int64))) => absurd (by rw [own_round, Int64.add_assoc]; exact congrArg (seed + ·) (by decide)) hc50) (fun (hc50 : (own_un (own_mix ((seed + (-7046029254386353131)) + (-7046029254386353131)))) = (seed + (4354685564936845354 : Int64))) => ?_)
  refine w_lload (pc' := 55) X12 at_53 rfl rfl ?_
  refine w_callS (pc' := 58) (wd := 0) (argsL := [(.long (own_mix (((seed + (-7046029254386353131)) + (-7046029254386353131)) + (-7046029254386353131))))]) (rest := []) (Q2 := (rm4_Q Z (own_mix (((seed + (-7046029254386353131)) + (-7046029254386353131)) + (-7046029254386353131))) h9 n0)) X12 at_55 (hw _ (List.mem_of_getElem? (i := 19) rfl)) (hw _ (List.mem_of_getElem? (i := 20) rfl)) (hw _ (List.mem_of_getElem? (i := 21) rfl)) (hw _ (List.mem_of_getElem? (i := 22) rfl)) (by decide) (rm4 l Z a0 hw [] (own_mix (((seed + (-7046029254386353131)) + (-7046029254386353131)) + (-7046029254386353131))) h9 n0 X12.size) pd_83 rfl rfl rfl (Nat.le_of_eq rfl) (by decide) (fun v13 T13 h13 X13 q13 => ?_)
  obtain ⟨rfl, rfl⟩ := q13
  refine w_lloadN (pc' := 59) X13 at_58 rfl rfl ?_
  refine w_ldc2 (pc' := 62) (z := (-2691343689449507777 : Int64)) X13 at_59 (hw _ (List.mem_of_getElem? (i := 31) rfl)) rfl ?_
  refine w_ladd (pc' := 63) X13 at_62 rfl ?_
  refine w_lcif_ne (pc' := 64) (pc1 := 71) (pc2 := 67) X13 at_63 at_64 (by decide) (fun (hc64 : (own_un (own_mix (((seed + (-7046029254386353131)) + (-7046029254386353131)) + (-7046029254386353131)))) ≠ (seed + (-2691343689449507777 : Int64))) => absurd (by rw [own_round, Int64.add_assoc, Int64.add_assoc]; exact congrArg (seed + ·) (by decide)) hc64) (fun (hc64 : (own_un (own_mix (((seed + (-7046029254386353131)) + (-7046029254386353131)) + (-7046029254386353131)))) = (seed + (-2691343689449507777 : Int64))) => ?_)
  refine w_iconst (pc' := 68) (z := (1 : Int32)) X13 at_67 rfl rfl ?_
  refine w_goto (pc' := 72) X13 at_68 (by decide) ?_
  exact w_nreturn (t := .boolean) X13 at_72 rfl (by simp) (rfl)
set_option maxRecDepth 65536 in
set_option maxHeartbeats 40000000 in
theorem comes_1 {Post : Tables → Env → Array Value → State → Outcome → State → Prop} (hpost : ∀ tb e args s v u, (limb_1_1.after args s (.returned v) u = true ∧ limb_1_2.after args s (.returned v) u = true ∧ True) → FrameEnd s (.returned v) u (Jvm.fieldLocs frame_1_writes args s ++ Jvm.arrayLocs frame_1_arrays args s ++ Jvm.staticLocs frame_1_statics s) 16 128 → Post tb e args s (.returned v) u) :
    ArmFor flags0 classFile x code maxLocals ret World_1 tables_1 room_1 Calls_1 rest_1 Pre_1 Post := by
  intro l hfl _ _ p e ha hc hk s m args below hf hA hF happ hP
  obtain ⟨hcalls, hrest, hpre⟩ := hP
  obtain ⟨-, -, -, hnamed, -, -, -, hat⟩ := (Spec.applies_iff hf).mp happ
  obtain ⟨hg, hn⟩ := and_e (Cond.before_iff.mp (show (Jvm.Cond.and given_1 narrow_1).before args s = true from hpre))
  obtain ⟨ga0, gb0⟩ := and_e hg
  obtain ⟨w0, rfl⟩ : ∃ w0 : Value, args = #[w0] := by
    have hs : args.size = 1 := by simpa [Cond.value, given_1] using ga0
    obtain ⟨L⟩ := args
    match L, hs with
    | [w0], _ => exact ⟨w0, rfl⟩
  have hw := fun d (hd : d ∈ tables_1) => atoms_spec (ws := Jvm.Cond.code x code maxLocals ret :: tables_1) hat d (List.mem_cons_of_mem _ hd)
  obtain ⟨i0, ei0⟩ := isL_v gb0
  obtain rfl : w0 = (.long i0) := Option.some.inj ei0
  obtain ⟨n, o, h1, h2, h3, _, L, rfl, ⟨N, -, rfl⟩, hq⟩ := rm0 l s _ hw tables_1 i0 s.heap s.heap.size (Nat.le_refl _) p e ha hc hk s m _ below hf ((Spec.applies_iff_loose hf).mp happ).1 ⟨rfl, State.Warmed39.refl s, rfl⟩ trivial
  refine ⟨n, _, h1, h2, h3, hpost _ _ _ _ _ _ ⟨Cond.after_iff.mpr rfl, Cond.after_iff.mpr (eq_i res_at (Term.int_eval (1)) rfl), trivial⟩ ⟨hq.1, hq.2.1, (hq.2.2.sift fun y hy => Or.inr (N y hy)).mono (by decide) (by decide)⟩⟩
theorem main_1_1 : Claimed_1_1 := comes_1 fun _ _ _ _ _ _ h hF => ⟨h.1, hF⟩
theorem main_1_2 : Claimed_1_2 := comes_1 fun _ _ _ _ _ _ h hF => ⟨h.2.1, hF⟩
end Jvm.Pilot.@@N@@
namespace Jvm.Pilot.@@N@@
open Jvm Jvm.ClassFile Sem Op Lib Jvm.Free Jvm.Stand Jvm.Pilot.@@N@@.Jvm.D
/-! MADE BY PROGRAM (witnessworld.py) out of the Statement's table words and the real class files: 9 classes; the members and pool entries that the words name. The judged class is class 1, her method 3. -/
namespace start1
open Jvm.ClassFile
def u (s : String) : CpInfo := .utf8 (stringToUtf16 s)
/-- a pool by its gaps: so many unusable entries, then the entry; so many at the end -/
def gap : Nat → List CpInfo → List CpInfo
  | 0, r => r
  | n + 1, r => .unusable :: gap n r
def poolList (es : List (Nat × CpInfo)) (last : Nat) : List CpInfo := es.foldr (fun e r => gap e.1 (e.2 :: r)) (gap last [])
def pool (es : List (Nat × CpInfo)) (last : Nat) : Array CpInfo := ⟨poolList es last⟩
def fileOf (pool : Array CpInfo) (this : Nat) (attrs : Array Attribute := #[]) (ms : Array MethodInfo := #[]) (fl : Nat := 33) (sup : Nat := 0) (ifs : Array Nat := #[]) (fds : Array FieldInfo := #[]) : ClassFile where
  minorVersion := 0
  majorVersion := 65
  constantPool := pool
  accessFlags := fl
  thisClass := this
  superClass := sup
  interfaces := ifs
  fields := fds
  methods := ms
  attributes := attrs
def plain (name : String) (sup : Option ClassId) : Class where
  name := name
  kind := .ordinary
  loader := none
  accessFlags := 33
  super := sup
  interfaces := #[]
  cf := none
  fields := #[]
  methods := #[]
  instanceTypes := #[]
  staticTypes := #[]
  resolved := #[]
  callSites := []
  init := .initialized
  statics := none
  mirror := none

def pool0 : Array CpInfo := pool [(5, u "<init>"), (0, u "()V"), (1, .class_ 10), (1, u "java/lang/Object")] 113

def k0c0 : Code := { maxStack := 0, maxLocals := 1, code := object_method_1_code, exceptionTable := #[], attributes := #[] }
def k0m0 : Method := { name := "<init>", desc := "()V", sig := { parameters := [], returnType := none }, accessFlags := 1, code := some k0c0 }
/-- java/lang/Object -/
def k0 : Class := { plain "java/lang/Object" none with
  accessFlags := 33
  interfaces := #[]
  cf := some (fileOf pool0 8 #[] #[{ accessFlags := 1, nameIndex := 5, descriptorIndex := 6, attributes := #[] }] 33 0 #[] #[])
  fields := #[]
  methods := #[k0m0]
  instanceTypes := #[]
  staticTypes := #[]
  resolved := Array.replicate 124 none
  statics := none }

def pool1 : Array CpInfo := pool [(2, .class_ 4), (1, u "java/lang/Object"), (0, u "<init>"), (0, u "()V"), (0, .long 2), (1, .long 10723151780598845931), (1, .methodref 12 13), (0, .class_ 14), (0, .nameAndType 15 16), (0, u "com/example/tinderset/tinderset/model/SplitMix64NextPinLaw"), (0, u "inv"), (0, u "(J)J"), (0, .long 13787848793156543929), (1, .class_ 20), (0, u "com/example/tinderset/tinderset/model/SplitMix64"), (0, .methodref 19 22), (0, .nameAndType 5 23), (0, u "(J)V"), (0, .methodref 19 25), (0, .nameAndType 26 27), (0, u "next"), (0, u "()J"), (0, .methodref 12 29), (0, .nameAndType 30 16), (0, u "unmix"), (0, .long 11400714819323198485), (1, .long 4354685564936845354), (1, .long 15755400384260043839), (1, u "G"), (0, u "J"), (3, u "law"), (0, u "(J)Z")] 3

def k1m0 : Method := { name := "<init>", desc := "()V", sig := { parameters := [], returnType := none }, accessFlags := 1, code := none }
def k1c1 : Code := { maxStack := 8, maxLocals := 4, code := method_2_code, exceptionTable := #[], attributes := #[] }
def k1m1 : Method := { name := "inv", desc := "(J)J", sig := { parameters := [.long], returnType := some .long }, accessFlags := 10, code := some k1c1 }
def k1c2 : Code := { maxStack := 5, maxLocals := 4, code := method_3_code, exceptionTable := #[], attributes := #[] }
def k1m2 : Method := { name := "unmix", desc := "(J)J", sig := { parameters := [.long], returnType := some .long }, accessFlags := 10, code := some k1c2 }
def k1c3 : Code := { maxStack := 6, maxLocals := 9, code := code, exceptionTable := #[], attributes := #[] }
def k1m3 : Method := { name := "law", desc := "(J)Z", sig := { parameters := [.long], returnType := some .boolean }, accessFlags := 9, code := some k1c3 }
/-- com/example/tinderset/tinderset/model/SplitMix64NextPinLaw -/
def k1 : Class := { plain "com/example/tinderset/tinderset/model/SplitMix64NextPinLaw" (some 0) with
  accessFlags := 49
  interfaces := #[]
  cf := some (fileOf pool1 12 #[] #[{ accessFlags := 1, nameIndex := 5, descriptorIndex := 6, attributes := #[] }, { accessFlags := 10, nameIndex := 15, descriptorIndex := 16, attributes := #[] }, { accessFlags := 10, nameIndex := 30, descriptorIndex := 16, attributes := #[] }, { accessFlags := 9, nameIndex := 42, descriptorIndex := 43, attributes := #[] }] 49 2 #[] #[{ accessFlags := 26, nameIndex := 37, descriptorIndex := 38, attributes := #[] }])
  fields := #[{ name := "G", type := .long, accessFlags := 26, slot := 0, constantValue := 0 }]
  methods := #[k1m0, k1m1, k1m2, k1m3]
  instanceTypes := #[]
  staticTypes := #[.long]
  resolved := Array.replicate 47 none
  statics := none }

def pool2 : Array CpInfo := pool [(1, .methodref 2 3), (0, .class_ 4), (0, .nameAndType 5 6), (0, u "java/lang/Object"), (0, u "<init>"), (0, u "()V"), (0, .fieldref 8 9), (0, .class_ 10), (0, .nameAndType 11 12), (0, u "com/example/tinderset/tinderset/model/SplitMix64"), (0, u "state"), (0, u "J"), (0, .long 11400714819323198485), (1, .long 13787848793156543929), (1, .long 10723151780598845931), (7, u "next"), (0, u "()J"), (0, u "GAMMA"), (1, u "(J)V")] 7

def k2c0 : Code := { maxStack := 3, maxLocals := 3, code := prog_68_method_1_code, exceptionTable := #[], attributes := #[] }
def k2m0 : Method := { name := "<init>", desc := "(J)V", sig := { parameters := [.long], returnType := none }, accessFlags := 0, code := some k2c0 }
def k2c1 : Code := { maxStack := 5, maxLocals := 3, code := prog_68_method_2_code, exceptionTable := #[], attributes := #[] }
def k2m1 : Method := { name := "next", desc := "()J", sig := { parameters := [], returnType := some .long }, accessFlags := 0, code := some k2c1 }
/-- com/example/tinderset/tinderset/model/SplitMix64 -/
def k2 : Class := { plain "com/example/tinderset/tinderset/model/SplitMix64" (some 0) with
  accessFlags := 48
  interfaces := #[]
  cf := some (fileOf pool2 8 #[] #[{ accessFlags := 0, nameIndex := 5, descriptorIndex := 29, attributes := #[] }, { accessFlags := 0, nameIndex := 25, descriptorIndex := 26, attributes := #[] }] 48 2 #[] #[{ accessFlags := 26, nameIndex := 27, descriptorIndex := 12, attributes := #[] }, { accessFlags := 2, nameIndex := 11, descriptorIndex := 12, attributes := #[] }])
  fields := #[{ name := "GAMMA", type := .long, accessFlags := 26, slot := 0, constantValue := 0 }, { name := "state", type := .long, accessFlags := 2, slot := 0, constantValue := 0 }]
  methods := #[k2m0, k2m1]
  instanceTypes := #[.long]
  staticTypes := #[.long]
  resolved := Array.replicate 37 none
  statics := none }

def pool3 : Array CpInfo := pool [(1, u "java/lang/Cloneable"), (0, .class_ 1), (0, u "java/lang/Object"), (0, .class_ 3)] 3

/-- java/lang/Cloneable -/
def k3 : Class := { plain "java/lang/Cloneable" (some 0) with
  accessFlags := 1537
  interfaces := #[]
  cf := some (fileOf pool3 2 #[] #[] 1537 4 #[] #[])
  fields := #[]
  methods := #[]
  instanceTypes := #[]
  staticTypes := #[]
  resolved := Array.replicate 8 none
  statics := none }

def pool4 : Array CpInfo := pool [(1, u "java/io/Serializable"), (0, .class_ 1), (0, u "java/lang/Object"), (0, .class_ 3)] 3

/-- java/io/Serializable -/
def k4 : Class := { plain "java/io/Serializable" (some 0) with
  accessFlags := 1537
  interfaces := #[]
  cf := some (fileOf pool4 2 #[] #[] 1537 4 #[] #[])
  fields := #[]
  methods := #[]
  instanceTypes := #[]
  staticTypes := #[]
  resolved := Array.replicate 8 none
  statics := none }

/-- the primitive byte -/
def k5 : Class := { plain "byte" none with kind := .primitive 'B', accessFlags := 0x411 }
/-- [B -/
def k6 : Class := { plain "[B" (some 0) with kind := .array 5 .byte, interfaces := #[3, 4], accessFlags := 1041 }

/-- the primitive int -/
def k7 : Class := { plain "int" none with kind := .primitive 'I', accessFlags := 0x411 }
/-- [I -/
def k8 : Class := { plain "[I" (some 0) with kind := .array 7 .int, interfaces := #[3, 4], accessFlags := 1041 }

def heap : Heap := #[]
def classes : Array Class := #[k0, k1, k2, k3, k4, k5, k6, k7, k8]
def interned : List (Array UInt16 × Addr) := []
def slotsUsed : Nat := 0
def theMethod : MethodId := ⟨1, 3⟩
def args0 : Array Value := #[.long 3]
def aboutOver (below : List Frame) : State where
  vm := { classes := classes, interned := interned.toArray }
  heap := heap
  slotsUsed := slotsUsed
  threads := #[{ frames := .invoking theMethod args0 :: below }]
def below0 : List Frame := [.native { method := ⟨0, 0⟩, args := #[] }]
def about1 : State := aboutOver below0
def p0 : Program := .bare "" "" ""
def e0 : Env := launch0.env 0 0 0
theorem w_frames : about1.frames = Frame.invoking theMethod args0 :: below0 := rfl
set_option maxRecDepth 65536 in
theorem w_args : argsFit about1.vm theMethod args0 = true := by decide +kernel
set_option maxRecDepth 65536 in
theorem w_heap : heapFits about1 = true := by decide +kernel
set_option maxRecDepth 65536 in
theorem w_runnable : about1.curStatus? = some .runnable := by decide +kernel
set_option maxRecDepth 65536 in
theorem w_alone : about1.alone = true := by decide +kernel
set_option maxRecDepth 65536 in
theorem w_named : about1.methodNamed? x = some theMethod := by decide +kernel
set_option maxRecDepth 65536 in
theorem w_hears : about1.hears theMethod below0 = true := by decide +kernel
set_option maxRecDepth 65536 in
theorem w_ripe : about1.ripe theMethod args0 below0 = true := by decide +kernel
theorem w_running : about1.status = .running := rfl
set_option maxRecDepth 65536 in
theorem w_room : about1.hasRoom e0.platform room_1 = true :=
  launch0.hasRoom_least _ room_1 (by decide +kernel) (by decide +kernel) (by decide +kernel) (by decide +kernel) (by decide +kernel) (by decide +kernel)
theorem allAtoms_all (ts : List Jvm.Cond) (a : Array Jvm.Value) (st : Jvm.State) : (allAtoms ts).before a st = ts.all (fun c => c.before a st) := by
  induction ts with
  | nil => rfl
  | cons c t ih =>
    show (Jvm.Cond.and c (allAtoms t)).before a st = _
    rw [Jvm.Cond.before_and, ih, List.all_cons]
def words1 : List Jvm.Cond := Jvm.Cond.code x code maxLocals ret :: tables_1
/-- a 'code' word, met by the world's own term for the bytes: nothing is compared byte by byte -/
theorem code_word {y : MethodName} {bytes : ByteArray} {mx : Nat} {rt : Option FieldType} {a : Array Value} {s : State} {m : MethodId} {meth : Method} {c : Code} (h1 : s.methodNamed? y = some m) (h2 : s.vm.method? m = some meth) (h3 : meth.code = some c) (h4 : c.code = bytes)
    (h5 : (c.maxLocals == mx && c.exceptionTable.isEmpty && decide (c.maxStack ≤ mostOperands) && decide (meth.sig.returnType = rt) && !meth.locks && decide (parseMethodDescriptor y.desc = some meth.sig)) = true) : (Jvm.Cond.code y bytes mx rt).before a s = true := by
  simp only [Bool.and_eq_true, beq_iff_eq, Bool.not_eq_true', decide_eq_true_eq] at h5
  obtain ⟨⟨⟨⟨⟨g1, g2⟩, g3⟩, g4⟩, g5⟩, g6⟩ := h5
  simp [Cond.before, Cond.holds, Cond.value, h1, h2, h3, h4, g1, g2, g3, g4, g5, g6]
def isCode : Jvm.Cond → Bool
  | .code _ _ _ _ => true
  | _ => false
theorem all_split {L : List Jvm.Cond} {P : Jvm.Cond → Bool} (h1 : L.all (fun c => isCode c || P c) = true) (h2 : ∀ c ∈ L.filter isCode, P c = true) : L.all P = true := by
  refine List.all_eq_true.mpr fun c hc => ?_
  have h := List.all_eq_true.mp h1 c hc
  rcases Bool.eq_false_or_eq_true (isCode c) with hi | hi
  · exact h2 c (List.mem_filter.mpr ⟨hc, hi⟩)
  · simpa [hi] using h
set_option maxRecDepth 65536 in
theorem w_c0 : (Jvm.Cond.code x code maxLocals ret).before args0 about1 = true := code_word (m := ⟨1, 3⟩) (meth := k1m3) (c := k1c3) (by decide +kernel) rfl rfl rfl (by decide +kernel)
set_option maxRecDepth 65536 in
theorem w_c1 : (Jvm.Cond.code ({ cls := "com/example/tinderset/tinderset/model/SplitMix64", name := "<init>", desc := "(J)V" } : Jvm.MethodName) prog_68_method_1_code (3 : Nat) (Option.none : Option Jvm.ClassFile.FieldType)).before args0 about1 = true := code_word (m := ⟨2, 0⟩) (meth := k2m0) (c := k2c0) (by decide +kernel) rfl rfl rfl (by decide +kernel)
set_option maxRecDepth 65536 in
theorem w_c2 : (Jvm.Cond.code ({ cls := "java/lang/Object", name := "<init>", desc := "()V" } : Jvm.MethodName) object_method_1_code (1 : Nat) (Option.none : Option Jvm.ClassFile.FieldType)).before args0 about1 = true := code_word (m := ⟨0, 0⟩) (meth := k0m0) (c := k0c0) (by decide +kernel) rfl rfl rfl (by decide +kernel)
set_option maxRecDepth 65536 in
theorem w_c3 : (Jvm.Cond.code ({ cls := "com/example/tinderset/tinderset/model/SplitMix64", name := "next", desc := "()J" } : Jvm.MethodName) prog_68_method_2_code (3 : Nat) (Option.some Jvm.ClassFile.FieldType.long)).before args0 about1 = true := code_word (m := ⟨2, 1⟩) (meth := k2m1) (c := k2c1) (by decide +kernel) rfl rfl rfl (by decide +kernel)
set_option maxRecDepth 65536 in
theorem w_c4 : (Jvm.Cond.code ({ cls := "com/example/tinderset/tinderset/model/SplitMix64NextPinLaw", name := "unmix", desc := "(J)J" } : Jvm.MethodName) method_3_code (4 : Nat) (Option.some Jvm.ClassFile.FieldType.long)).before args0 about1 = true := code_word (m := ⟨1, 2⟩) (meth := k1m2) (c := k1c2) (by decide +kernel) rfl rfl rfl (by decide +kernel)
set_option maxRecDepth 65536 in
theorem w_c5 : (Jvm.Cond.code ({ cls := "com/example/tinderset/tinderset/model/SplitMix64NextPinLaw", name := "inv", desc := "(J)J" } : Jvm.MethodName) method_2_code (4 : Nat) (Option.some Jvm.ClassFile.FieldType.long)).before args0 about1 = true := code_word (m := ⟨1, 1⟩) (meth := k1m1) (c := k1c1) (by decide +kernel) rfl rfl rfl (by decide +kernel)
def codes1 : List Jvm.Cond := [Jvm.Cond.code x code maxLocals ret, Jvm.Cond.code ({ cls := "com/example/tinderset/tinderset/model/SplitMix64", name := "<init>", desc := "(J)V" } : Jvm.MethodName) prog_68_method_1_code (3 : Nat) (Option.none : Option Jvm.ClassFile.FieldType), Jvm.Cond.code ({ cls := "java/lang/Object", name := "<init>", desc := "()V" } : Jvm.MethodName) object_method_1_code (1 : Nat) (Option.none : Option Jvm.ClassFile.FieldType), Jvm.Cond.code ({ cls := "com/example/tinderset/tinderset/model/SplitMix64", name := "next", desc := "()J" } : Jvm.MethodName) prog_68_method_2_code (3 : Nat) (Option.some Jvm.ClassFile.FieldType.long), Jvm.Cond.code ({ cls := "com/example/tinderset/tinderset/model/SplitMix64NextPinLaw", name := "unmix", desc := "(J)J" } : Jvm.MethodName) method_3_code (4 : Nat) (Option.some Jvm.ClassFile.FieldType.long), Jvm.Cond.code ({ cls := "com/example/tinderset/tinderset/model/SplitMix64NextPinLaw", name := "inv", desc := "(J)J" } : Jvm.MethodName) method_2_code (4 : Nat) (Option.some Jvm.ClassFile.FieldType.long)]
set_option maxRecDepth 65536 in
theorem codes_eq : words1.filter isCode = codes1 := rfl
theorem w_codes : ∀ c ∈ words1.filter isCode, c.before args0 about1 = true := by
  rw [codes_eq]
  intro c hc
  simp only [codes1, List.mem_cons, List.not_mem_nil, or_false] at hc
  rcases hc with rfl | rfl | rfl | rfl | rfl | rfl
  · exact w_c0
  · exact w_c1
  · exact w_c2
  · exact w_c3
  · exact w_c4
  · exact w_c5
set_option maxRecDepth 65536 in
theorem w_t1 : (words1.take 24).all (fun c => isCode c || c.before args0 about1) = true := by decide +kernel
set_option maxRecDepth 65536 in
theorem w_t2 : (words1.drop 24).all (fun c => isCode c || c.before args0 about1) = true := by decide +kernel
theorem w_tables : (allAtoms (Jvm.Cond.code x code maxLocals ret :: tables_1)).before args0 about1 = true := by
  rw [allAtoms_all]
  show words1.all (fun c => c.before args0 about1) = true
  refine all_split ?_ w_codes
  rw [← List.take_append_drop 24 words1, List.all_append, w_t1, w_t2]
  rfl
set_option maxRecDepth 65536 in
theorem w_case : (Jvm.Cond.and given_1 narrow_1).before args0 about1 = true := by decide +kernel
theorem w_applies : (headSpec (Jvm.Cond.code x code maxLocals ret :: tables_1) room_1).applies x e0.platform about1 = true :=
  (Spec.applies_iff w_frames).mpr ⟨w_running, w_runnable, w_alone, w_named, w_hears, w_ripe, w_room, w_tables⟩
theorem atStart : AtStart classFile x code maxLocals ret World_1 tables_1 room_1 Calls_1 rest_1 Pre_1 launch0 p0 e0 about1 theMethod args0 below0 :=
  ⟨lists_1, trivial, launch0.admits_env _ _ _, launch0.least_env, fairChoices_fair.cas, fairChoices_fair.clock, w_frames, w_args, w_heap, w_applies, trivial, trivial, w_case⟩
end start1
theorem witness_1 : WitnessClaimed_1 := ⟨start1.p0, start1.e0, start1.about1, start1.theMethod, start1.args0, start1.below0, start1.atStart⟩
end Jvm.Pilot.@@N@@
