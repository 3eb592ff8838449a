import JvmDerived
import JvmDerived.Pilot.@@N@@Statement
import JvmDerived.Pilot.@@N@@Code
set_option linter.unusedVariables false
set_option linter.unusedSimpArgs false
@@BLOCK:NumsL.lean.txt@@
namespace Jvm.OwnW
open Jvm Jvm.ClassFile Sem Op Lib Jvm.Free Jvm.Stand Jvm.LawKit Jvm.RoadKit
/-! what is left to be shown, and where the run stands -/
def Qc (n0 : Nat) (Q : Option Value → Heap → Prop) (v : Option Value) (h : Heap) (L : List Loc) : Prop := Fr n0 L ∧ n0 ≤ h.size ∧ Q v h
def W (p : Program) (e : Env) (below : List Frame) (s : State) (R : Room) (n0 : Nat) (Q : Option Value → Heap → Prop) (S0 : State) : Prop :=
  ∃ s₂ o, Steps p.tables e below S0 s₂ ∧ s₂.status = .running ∧ Ended s₂ below o ∧ ∃ v L, o = .returned v ∧ Qc n0 Q v s₂.heap L ∧ FrameEnd s o s₂ L R.cells R.slots
def Sn (Z : State) (n0 : Nat) (bs : ByteArray) (mx : Nat) (own nm : String) (ret : Option FieldType) (p : Program) (l : Launch) (e : Env) (R : Room) (s : State) (m : MethodId) (args : Array Value) (below : List Frame) (meth : Method) (c : Code) (T : State) (h : Heap) (cells slots : Nat) : Prop :=
  ∃ locs, Stand p l e R s m args below meth c T locs cells slots ∧ T.heap = h ∧ Fr n0 locs ∧ n0 ≤ h.size ∧ cells ≤ R.cells ∧ slots ≤ R.slots ∧ p.tables.exec = Jvm.exec ∧ Z.Warmed39 s.vm ∧ c.code = bs ∧ c.maxLocals = mx ∧ s.vm.findClass own = some m.cls ∧ meth.name = nm ∧ meth.sig.returnType = ret ∧ meth.locks = false
def Ct (l : Launch) (Z : State) (y : MethodName) (bs : ByteArray) (mx : Nat) (ret : Option FieldType) (ws : List Jvm.Cond) (R : Room) (as' : Array Value) (h : Heap) (n0 : Nat) (Q : Option Value → Heap → Prop) : Prop :=
  MetFree l y (head1 (Cond.code y bs mx ret :: ws) R) (fun a U => a = as' ∧ Z.Warmed39 U.vm ∧ U.heap = h) (fun _ _ _ _ _ => True) (fun _ U o U' => ∃ v L, o = .returned v ∧ Qc n0 Q v U'.heap L ∧ FrameEnd U o U' L R.cells R.slots)
theorem Ct.of {l : Launch} {Z : State} {y : MethodName} {bs : ByteArray} {mx : Nat} {ret : Option FieldType} {ws : List Jvm.Cond} {R : Room} {as' : Array Value} {h : Heap} {n0 : Nat} {Q : Option Value → Heap → Prop} {Ls : Array Slot}
    (hp : plainFor y = true) (hn : n0 ≤ h.size) (he : ∀ m, entryFrame m as' mx = mkF m 0 Ls [])
    (body : ∀ p e s m below meth c T, Sn Z n0 bs mx y.cls y.name ret p l e R s m as' below meth c T h 0 0 → W p e below s R n0 Q (T.setTop (mkF m 0 Ls []))) : Ct l Z y bs mx ret ws R as' h n0 Q := by
  refine MetFree.of_bodySF hp hisR ?_
  intro p e s m args below meth c s₁ Bd hml0 hP hK
  obtain ⟨rfl, hZ, hh⟩ := hP
  have X0 : Stand p l e R s m args below meth c s₁ [] 0 0 := Stand.of_body Bd
  have e0 : s₁.heap = h := by rw [← hh, Bd.state]; rfl
  obtain ⟨s2, o, st, r⟩ := body p e s m below meth c s₁ ⟨[], X0, e0, Fr.nil n0, hn, Nat.zero_le _, Nat.zero_le _, Bd.exec, hZ, Bd.bytes, hml0, findClass_of_methodNamed Bd.named, (name_of_methodNamed Bd.named Bd.method).1, Bd.returns, Bd.notSynchronized⟩
  exact ⟨s2, o, castTop (he m) st, r⟩
/-! the shifts, by names -/
def lus (x : Int64) (y : Int32) : Int64 := (x.toUInt64 >>> (y &&& 0x3f).toInt64.toUInt64).toInt64
def lsl (x : Int64) (y : Int32) : Int64 := x <<< (y &&& 0x3f).toInt64
def lsr (x : Int64) (y : Int32) : Int64 := x >>> (y &&& 0x3f).toInt64
def ius (x : Int32) (y : Int32) : Int32 := (x.toUInt32 >>> (y &&& 31).toUInt32).toInt32
def isl (x : Int32) (y : Int32) : Int32 := x <<< (y &&& 31)
def isr (x : Int32) (y : Int32) : Int32 := x >>> (y &&& 31)
theorem sh_u : ∀ k : Nat, k < 64 → ((Int32.ofNat k &&& 0x3f).toInt64.toUInt64.toBitVec % 64).toNat = k := by decide +kernel
theorem sh_s : ∀ k : Nat, k < 64 → ((Int32.ofNat k &&& 0x3f).toInt64.toBitVec.smod 64).toNat = k := by decide +kernel
theorem sh_u32 : ∀ k : Nat, k < 32 → ((Int32.ofNat k &&& 31).toUInt32.toBitVec % 32).toNat = k := by decide +kernel
theorem sh_s32 : ∀ k : Nat, k < 32 → ((Int32.ofNat k &&& 31).toBitVec.smod 32).toNat = k := by decide +kernel
theorem lusB (x : Int64) {k : Nat} (hk : k < 64) : (lus x (Int32.ofNat k)).toBitVec = x.toBitVec >>> k := by
  show (x.toUInt64 >>> (Int32.ofNat k &&& 0x3f).toInt64.toUInt64).toBitVec = _
  rw [UInt64.toBitVec_shiftRight, BitVec.ushiftRight_eq', sh_u k hk]; rfl
theorem lslB (x : Int64) {k : Nat} (hk : k < 64) : (lsl x (Int32.ofNat k)).toBitVec = x.toBitVec <<< k := by
  unfold lsl
  rw [Int64.toBitVec_shiftLeft, BitVec.shiftLeft_eq', sh_s k hk]
theorem lsrB (x : Int64) {k : Nat} (hk : k < 64) : (lsr x (Int32.ofNat k)).toBitVec = x.toBitVec.sshiftRight k := by
  unfold lsr
  rw [Int64.toBitVec_shiftRight, BitVec.sshiftRight_eq', sh_s k hk]
theorem iusB (x : Int32) {k : Nat} (hk : k < 32) : (ius x (Int32.ofNat k)).toBitVec = x.toBitVec >>> k := by
  show (x.toUInt32 >>> (Int32.ofNat k &&& 31).toUInt32).toBitVec = _
  rw [UInt32.toBitVec_shiftRight, BitVec.ushiftRight_eq', sh_u32 k hk]; rfl
theorem isrB (x : Int32) {k : Nat} (hk : k < 32) : (isr x (Int32.ofNat k)).toBitVec = x.toBitVec.sshiftRight k := by
  unfold isr
  rw [Int32.toBitVec_shiftRight, BitVec.sshiftRight_eq', sh_s32 k hk]
/-- the long read without its sign -/
def un (x : Int64) : Nat := x.toBitVec.toNat
theorem un_inj {x y : Int64} (h : un x = un y) : x = y := Int64.toBitVec_inj.mp (BitVec.eq_of_toNat_eq h)
theorem un_lt (x : Int64) : un x < 2 ^ 64 := x.toBitVec.isLt
theorem un_of_nonneg {x : Int64} (h : 0 ≤ x.toInt) : (un x : Int) = x.toInt ∧ un x < 2 ^ 63 := by
  have e : x.toInt = if 2 * un x < 2 ^ 64 then (un x : Int) else (un x : Int) - ((2 ^ 64 : Nat) : Int) := BitVec.toInt_eq_toNat_cond _
  have l := un_lt x
  by_cases q : 2 * un x < 2 ^ 64
  · rw [if_pos q] at e; omega
  · rw [if_neg q] at e; omega
theorem un_lus (x : Int64) {k : Nat} (hk : k < 64) : un (lus x (Int32.ofNat k)) = un x / 2 ^ k := by
  unfold un; rw [lusB x hk, BitVec.toNat_ushiftRight, Nat.shiftRight_eq_div_pow]
theorem un_lsl (x : Int64) {k : Nat} (hk : k < 64) : un (lsl x (Int32.ofNat k)) = un x * 2 ^ k % 2 ^ 64 := by
  unfold un; rw [lslB x hk, BitVec.toNat_shiftLeft, Nat.shiftLeft_eq]
theorem un_or (x y : Int64) : un (x ||| y) = un x ||| un y := by
  unfold un; rw [Int64.toBitVec_or, BitVec.toNat_or]
theorem un_and (x y : Int64) : un (x &&& y) = un x &&& un y := by
  unfold un; rw [Int64.toBitVec_and, BitVec.toNat_and]
theorem un_mask (x m : Int64) {k : Nat} (hm : un m = 2 ^ k - 1) : un (x &&& m) = un x % 2 ^ k := by
  rw [un_and, hm, Nat.and_two_pow_sub_one_eq_mod]
theorem toInt_of_un {x : Int64} (h : un x < 2 ^ 63) : x.toInt = un x := by
  have e : x.toInt = x.toBitVec.toInt := rfl
  rw [e, BitVec.toInt_eq_toNat_cond]
  unfold un at *
  rw [if_pos (by omega)]
theorem lus_nonneg {x : Int64} (h : 0 ≤ x.toInt) {k : Nat} (hk : k < 64) : (lus x (Int32.ofNat k)).toInt = x.toInt / 2 ^ k := by
  have h1 := un_of_nonneg h
  have h2 := un_lus x hk
  have h3 : un x / 2 ^ k ≤ un x := Nat.div_le_self _ _
  rw [toInt_of_un (by omega), h2, ← h1.1]; simp
theorem byteN : ∀ b : BitVec 8, ((Int8.ofBitVec b).toInt32.toInt8.toInt32 &&& 255).toInt64.toBitVec.toNat = b.toNat := by decide +kernel
theorem byteU (v : Int64) : un ((v.toInt32.toInt8.toInt32.toInt8.toInt32 &&& 255).toInt64) = un v % 256 := by
  have e : (v.toInt32.toInt8).toBitVec.toNat = un v % 256 := by
    show ((v.toBitVec.signExtend 32).signExtend 8).toNat = _
    rw [BitVec.signExtend_eq_setWidth_of_le _ (by decide), BitVec.signExtend_eq_setWidth_of_le _ (by decide), BitVec.toNat_setWidth, BitVec.toNat_setWidth]
    unfold un; omega
  have h := byteN v.toInt32.toInt8.toBitVec
  rw [e] at h
  exact h
theorem catU {a c : Int64} {k : Nat} (hk : k < 64) (ha : un a * 2 ^ k < 2 ^ 64) (hc : un c < 2 ^ k) : un (lsl a (Int32.ofNat k) ||| c) = un a * 2 ^ k + un c := by
  rw [un_or, un_lsl a hk, Nat.mod_eq_of_lt ha, ← Nat.shiftLeft_eq, Nat.shiftLeft_add_eq_or_of_lt hc]
/-! an array: its kind, its length, what each place holds -/
def AF (Z : State) (h : Heap) (a : Addr) (ty : FieldType) (n : Nat) (f : Nat → Value) : Prop := ∃ c : Cell, Arr Z h a c ty ∧ c.slots.size = n ∧ n < 2 ^ 31 ∧ ∀ j, j < n → c.slots[j]? = some (f j)
def up (f : Nat → Value) (i : Nat) (v : Value) : Nat → Value := fun j => if j = i then v else f j
section
variable {Z : State} {h h' h0 : Heap} {a b : Addr} {ty : FieldType} {n i sl : Nat} {f g : Nat → Value} {v : Value} {ws : List Addr}
theorem AF.lt (F : AF Z h a ty n f) : a < h.size := by obtain ⟨c, A, -⟩ := F; exact A.lt
theorem AF.len (F : AF Z h a ty n f) : n < 2 ^ 31 := by obtain ⟨c, -, -, q, -⟩ := F; exact q
theorem AF.ext (F : AF Z h a ty n f) (E : Ext h h') : AF Z h' a ty n f := by obtain ⟨c, A, r⟩ := F; exact ⟨c, A.ext E, r⟩
theorem AF.other (F : AF Z h b ty n f) (W : Wr h h' a sl v) (q : b ≠ a) : AF Z h' b ty n f := by obtain ⟨c, A, r⟩ := F; exact ⟨c, A.other W q, r⟩
theorem AF.keep (F : AF Z h a ty n f) (K : Keep h h' ws) (q : a ∉ ws) : AF Z h' a ty n f := by obtain ⟨c, A, r⟩ := F; exact ⟨c, ⟨K.2.1 a c A.1 q, A.2⟩, r⟩
theorem AF.congr (F : AF Z h a ty n f) (q : ∀ j, j < n → f j = g j) : AF Z h a ty n g := by obtain ⟨c, A, r1, r2, r3⟩ := F; exact ⟨c, A, r1, r2, fun j hj => by rw [← q j hj]; exact r3 j hj⟩
theorem AF.set (F : AF Z h a ty n f) (W : Wr h h' a i v) : AF Z h' a ty n (up f i v) := by
  obtain ⟨c, A, r1, r2, r3⟩ := F
  refine ⟨_, A.same W, by rw [sz_set]; exact r1, r2, fun j hj => ?_⟩
  by_cases u : j = i
  · subst u; simp [Cell.setSlot, up, r1, hj]
  · simp only [Cell.setSlot, up, u, if_false]; rw [Array.getElem?_setIfInBounds_ne (Ne.symm u)]; exact r3 j hj
theorem AF.new {k : ClassId} {z : Int32} (A : Arr Z h a (newA k ty z) ty) (q : z.toInt = n) : AF Z h a ty n (fun _ => defaultValue ty) := by
  have := Int32.toInt_lt z
  refine ⟨_, A, by rw [sz_new]; simp only [Int32.toNatClampNeg]; omega, by omega, fun j hj => ?_⟩
  have : j < z.toNatClampNeg := by simp only [Int32.toNatClampNeg]; omega
  simp [newA, this]
theorem up_eq {j : Nat} (q : j = i) : up f i v j = v := if_pos q
theorem up_ne {j : Nat} (q : j ≠ i) : up f i v j = f j := if_neg q
theorem ne_size (q : b = h.size) (r : a < h.size) : a ≠ b := by subst q; exact Nat.ne_of_lt r
theorem Keep.app (K : Keep h0 h ws) (K' : Keep h h' ws) : Keep h0 h' ws := K.trans K' fun x hx => Or.inl hx
end
section
variable {p : Program} {l : Launch} {e : Env} {R : Room} {s : State} {m : MethodId} {args : Array Value} {below : List Frame} {meth : Method} {c : Code} {Z : State} {a0 : Array Value} {n0 : Nat} {bs : ByteArray} {mx : Nat} {own nm : String} {ret : Option FieldType} {T : State} {h : Heap} {cells slots : Nat} {Q : Option Value → Heap → Prop} {pc pc' pc1 pc2 k : Nat} {Ls L' : Array Slot} {st : List Value} {o : Int}
theorem W.of {S0 S1 : State} (q : ∀ t, Steps p.tables e below S1 t → Steps p.tables e below S0 t) (w : W p e below s R n0 Q S1) : W p e below s R n0 Q S0 := by
  obtain ⟨s2, o, st, r⟩ := w; exact ⟨s2, o, q _ st, r⟩
theorem W.fwd {S0 S1 : State} (q : Steps p.tables e below S0 S1) (w : W p e below s R n0 Q S1) : W p e below s R n0 Q S0 := W.of (fun _ k => q.trans k) w
theorem w_topI {x x' : Int32} (q : x = x') (w : W p e below s R n0 Q (T.setTop (mkF m pc Ls (.int x' :: st)))) : W p e below s R n0 Q (T.setTop (mkF m pc Ls (.int x :: st))) := by rw [q]; exact w
theorem w_topJ {x x' : Int64} (q : x = x') (w : W p e below s R n0 Q (T.setTop (mkF m pc Ls (.long x' :: st)))) : W p e below s R n0 Q (T.setTop (mkF m pc Ls (.long x :: st))) := by rw [q]; exact w
theorem Sn.size (X : Sn Z n0 bs mx own nm ret p l e R s m args below meth c T h cells slots) : n0 ≤ h.size := by obtain ⟨_, _, _, _, q, _⟩ := X; exact q
theorem Sn.more (X : Sn Z n0 bs mx own nm ret p l e R s m args below meth c T h cells slots) {cells' slots' : Nat} (q : cells ≤ cells' ∧ slots ≤ slots' ∧ cells' ≤ R.cells ∧ slots' ≤ R.slots) : Sn Z n0 bs mx own nm ret p l e R s m args below meth c T h cells' slots' := by
  obtain ⟨locs, X, r1, r2, r3, -, -, r⟩ := X; exact ⟨locs, X.more q.1 q.2.1, r1, r2, r3, q.2.2.1, q.2.2.2, r⟩
theorem w_iload (X : Sn Z n0 bs mx own nm ret p l e R s m args below meth c T h cells slots) {v : Int32} (hd : decode bs pc = .ok (.iload k, 2)) (hl : Ls[k]? = some (.val (.int v))) (hp : pc + 2 = pc')
    (w : W p e below s R n0 Q (T.setTop (mkF m pc' Ls (.int v :: st)))) : W p e below s R n0 Q (T.setTop (mkF m pc Ls (st))) := by
  obtain ⟨locs, X, eT, N, hs0, hcl, hsl, hx, hZ, rfl, hml, hown, hnm, hret, hlk⟩ := X
  subst hp
  exact W.of (fun t k => XS.iload X.here hx rfl hd hl k) w
theorem w_iloadN (X : Sn Z n0 bs mx own nm ret p l e R s m args below meth c T h cells slots) {v : Int32} {q : Fin 4} (hd : decode bs pc = .ok (.iload_n q, 1)) (hl : Ls[q.val]? = some (.val (.int v))) (hp : pc + 1 = pc')
    (w : W p e below s R n0 Q (T.setTop (mkF m pc' Ls (.int v :: st)))) : W p e below s R n0 Q (T.setTop (mkF m pc Ls (st))) := by
  obtain ⟨locs, X, eT, N, hs0, hcl, hsl, hx, hZ, rfl, hml, hown, hnm, hret, hlk⟩ := X
  subst hp
  exact W.of (fun t k => XS.iloadN X.here hx rfl hd hl k) w
theorem w_istore (X : Sn Z n0 bs mx own nm ret p l e R s m args below meth c T h cells slots) {v : Int32} (hd : decode bs pc = .ok (.istore k, 2)) (hl : storeLocals Ls k (.int v) = some L') (hp : pc + 2 = pc')
    (w : W p e below s R n0 Q (T.setTop (mkF m pc' L' (st)))) : W p e below s R n0 Q (T.setTop (mkF m pc Ls (.int v :: st))) := by
  obtain ⟨locs, X, eT, N, hs0, hcl, hsl, hx, hZ, rfl, hml, hown, hnm, hret, hlk⟩ := X
  subst hp
  exact W.of (fun t k => XS.istore X.here hx rfl hd rfl hl k) w
theorem w_istoreN (X : Sn Z n0 bs mx own nm ret p l e R s m args below meth c T h cells slots) {v : Int32} {q : Fin 4} (hd : decode bs pc = .ok (.istore_n q, 1)) (hl : storeLocals Ls q.val (.int v) = some L') (hp : pc + 1 = pc')
    (w : W p e below s R n0 Q (T.setTop (mkF m pc' L' (st)))) : W p e below s R n0 Q (T.setTop (mkF m pc Ls (.int v :: st))) := by
  obtain ⟨locs, X, eT, N, hs0, hcl, hsl, hx, hZ, rfl, hml, hown, hnm, hret, hlk⟩ := X
  subst hp
  exact W.of (fun t k => XS.istoreN X.here hx rfl hd rfl hl k) w
theorem w_lload (X : Sn Z n0 bs mx own nm ret p l e R s m args below meth c T h cells slots) {v : Int64} (hd : decode bs pc = .ok (.lload k, 2)) (hl : Ls[k]? = some (.val (.long v))) (hp : pc + 2 = pc')
    (w : W p e below s R n0 Q (T.setTop (mkF m pc' Ls (.long v :: st)))) : W p e below s R n0 Q (T.setTop (mkF m pc Ls (st))) := by
  obtain ⟨locs, X, eT, N, hs0, hcl, hsl, hx, hZ, rfl, hml, hown, hnm, hret, hlk⟩ := X
  subst hp
  exact W.of (fun t k => XS.lload X.here hx rfl hd hl k) w
theorem w_lloadN (X : Sn Z n0 bs mx own nm ret p l e R s m args below meth c T h cells slots) {v : Int64} {q : Fin 4} (hd : decode bs pc = .ok (.lload_n q, 1)) (hl : Ls[q.val]? = some (.val (.long v))) (hp : pc + 1 = pc')
    (w : W p e below s R n0 Q (T.setTop (mkF m pc' Ls (.long v :: st)))) : W p e below s R n0 Q (T.setTop (mkF m pc Ls (st))) := by
  obtain ⟨locs, X, eT, N, hs0, hcl, hsl, hx, hZ, rfl, hml, hown, hnm, hret, hlk⟩ := X
  subst hp
  exact W.of (fun t k => XS.lloadN X.here hx rfl hd hl k) w
theorem w_lstore (X : Sn Z n0 bs mx own nm ret p l e R s m args below meth c T h cells slots) {v : Int64} (hd : decode bs pc = .ok (.lstore k, 2)) (hl : storeLocals Ls k (.long v) = some L') (hp : pc + 2 = pc')
    (w : W p e below s R n0 Q (T.setTop (mkF m pc' L' (st)))) : W p e below s R n0 Q (T.setTop (mkF m pc Ls (.long v :: st))) := by
  obtain ⟨locs, X, eT, N, hs0, hcl, hsl, hx, hZ, rfl, hml, hown, hnm, hret, hlk⟩ := X
  subst hp
  exact W.of (fun t k => XS.lstore X.here hx rfl hd rfl hl k) w
theorem w_lstoreN (X : Sn Z n0 bs mx own nm ret p l e R s m args below meth c T h cells slots) {v : Int64} {q : Fin 4} (hd : decode bs pc = .ok (.lstore_n q, 1)) (hl : storeLocals Ls q.val (.long v) = some L') (hp : pc + 1 = pc')
    (w : W p e below s R n0 Q (T.setTop (mkF m pc' L' (st)))) : W p e below s R n0 Q (T.setTop (mkF m pc Ls (.long v :: st))) := by
  obtain ⟨locs, X, eT, N, hs0, hcl, hsl, hx, hZ, rfl, hml, hown, hnm, hret, hlk⟩ := X
  subst hp
  exact W.of (fun t k => XS.lstoreN X.here hx rfl hd rfl hl k) w
theorem w_aload (X : Sn Z n0 bs mx own nm ret p l e R s m args below meth c T h cells slots) {v : Value} (hd : decode bs pc = .ok (.aload k, 2)) (hl : Ls[k]? = some (.val v)) (hv : v.isRef = true) (hp : pc + 2 = pc')
    (w : W p e below s R n0 Q (T.setTop (mkF m pc' Ls (v :: st)))) : W p e below s R n0 Q (T.setTop (mkF m pc Ls (st))) := by
  obtain ⟨locs, X, eT, N, hs0, hcl, hsl, hx, hZ, rfl, hml, hown, hnm, hret, hlk⟩ := X
  subst hp
  exact W.of (fun t k => XS.aload X.here hx rfl hd hl hv k) w
theorem w_aloadN (X : Sn Z n0 bs mx own nm ret p l e R s m args below meth c T h cells slots) {v : Value} {q : Fin 4} (hd : decode bs pc = .ok (.aload_n q, 1)) (hl : Ls[q.val]? = some (.val v)) (hv : v.isRef = true) (hp : pc + 1 = pc')
    (w : W p e below s R n0 Q (T.setTop (mkF m pc' Ls (v :: st)))) : W p e below s R n0 Q (T.setTop (mkF m pc Ls (st))) := by
  obtain ⟨locs, X, eT, N, hs0, hcl, hsl, hx, hZ, rfl, hml, hown, hnm, hret, hlk⟩ := X
  subst hp
  exact W.of (fun t k => XS.aloadN X.here hx rfl hd hl hv k) w
theorem w_astore (X : Sn Z n0 bs mx own nm ret p l e R s m args below meth c T h cells slots) {v : Value} (hd : decode bs pc = .ok (.astore k, 2)) (hv : v.isRef = true) (hl : storeLocals Ls k v = some L') (hp : pc + 2 = pc')
    (w : W p e below s R n0 Q (T.setTop (mkF m pc' L' (st)))) : W p e below s R n0 Q (T.setTop (mkF m pc Ls (v :: st))) := by
  obtain ⟨locs, X, eT, N, hs0, hcl, hsl, hx, hZ, rfl, hml, hown, hnm, hret, hlk⟩ := X
  subst hp
  exact W.of (fun t k => XS.astore X.here hx rfl hd rfl hv hl k) w
theorem w_astoreN (X : Sn Z n0 bs mx own nm ret p l e R s m args below meth c T h cells slots) {v : Value} {q : Fin 4} (hd : decode bs pc = .ok (.astore_n q, 1)) (hv : v.isRef = true) (hl : storeLocals Ls q.val v = some L') (hp : pc + 1 = pc')
    (w : W p e below s R n0 Q (T.setTop (mkF m pc' L' (st)))) : W p e below s R n0 Q (T.setTop (mkF m pc Ls (v :: st))) := by
  obtain ⟨locs, X, eT, N, hs0, hcl, hsl, hx, hZ, rfl, hml, hown, hnm, hret, hlk⟩ := X
  subst hp
  exact W.of (fun t k => XS.astoreN X.here hx rfl hd rfl hv hl k) w
theorem w_iconst (X : Sn Z n0 bs mx own nm ret p l e R s m args below meth c T h cells slots) {z : Int32} (hd : decode bs pc = .ok (.iconst o, 1)) (hz : Int32.ofInt o = z) (hp : pc + 1 = pc')
    (w : W p e below s R n0 Q (T.setTop (mkF m pc' Ls (.int z :: st)))) : W p e below s R n0 Q (T.setTop (mkF m pc Ls (st))) := by
  obtain ⟨locs, X, eT, N, hs0, hcl, hsl, hx, hZ, rfl, hml, hown, hnm, hret, hlk⟩ := X
  subst hp
  exact W.of (fun t k => by subst hz; exact XS.iconst X.here hx rfl hd k) w
theorem w_bipush (X : Sn Z n0 bs mx own nm ret p l e R s m args below meth c T h cells slots) {z : Int32} (hd : decode bs pc = .ok (.bipush o, 2)) (hz : (Int8.ofInt o).toInt32 = z) (hp : pc + 2 = pc')
    (w : W p e below s R n0 Q (T.setTop (mkF m pc' Ls (.int z :: st)))) : W p e below s R n0 Q (T.setTop (mkF m pc Ls (st))) := by
  obtain ⟨locs, X, eT, N, hs0, hcl, hsl, hx, hZ, rfl, hml, hown, hnm, hret, hlk⟩ := X
  subst hp
  exact W.of (fun t k => by subst hz; exact XS.bipush X.here hx rfl hd k) w
theorem w_sipush (X : Sn Z n0 bs mx own nm ret p l e R s m args below meth c T h cells slots) {z : Int32} (hd : decode bs pc = .ok (.sipush o, 3)) (hz : (Int16.ofInt o).toInt32 = z) (hp : pc + 3 = pc')
    (w : W p e below s R n0 Q (T.setTop (mkF m pc' Ls (.int z :: st)))) : W p e below s R n0 Q (T.setTop (mkF m pc Ls (st))) := by
  obtain ⟨locs, X, eT, N, hs0, hcl, hsl, hx, hZ, rfl, hml, hown, hnm, hret, hlk⟩ := X
  subst hp
  exact W.of (fun t k => by subst hz; exact XS.sipush X.here hx rfl hd k) w
theorem w_lconst (X : Sn Z n0 bs mx own nm ret p l e R s m args below meth c T h cells slots) {z : Int64} {q : Fin 2} (hd : decode bs pc = .ok (.lconst q, 1)) (hz : Int64.ofNat q = z) (hp : pc + 1 = pc')
    (w : W p e below s R n0 Q (T.setTop (mkF m pc' Ls (.long z :: st)))) : W p e below s R n0 Q (T.setTop (mkF m pc Ls (st))) := by
  obtain ⟨locs, X, eT, N, hs0, hcl, hsl, hx, hZ, rfl, hml, hown, hnm, hret, hlk⟩ := X
  subst hp
  exact W.of (fun t k => by subst hz; exact XS.lconst X.here hx rfl hd k) w
theorem w_aconst_null (X : Sn Z n0 bs mx own nm ret p l e R s m args below meth c T h cells slots) (hd : decode bs pc = .ok (.aconst_null, 1)) (hp : pc + 1 = pc')
    (w : W p e below s R n0 Q (T.setTop (mkF m pc' Ls (.null :: st)))) : W p e below s R n0 Q (T.setTop (mkF m pc Ls (st))) := by
  obtain ⟨locs, X, eT, N, hs0, hcl, hsl, hx, hZ, rfl, hml, hown, hnm, hret, hlk⟩ := X
  subst hp
  exact W.of (fun t k => XS.aconstNull X.here hx rfl hd k) w
theorem w_ldc (X : Sn Z n0 bs mx own nm ret p l e R s m args below meth c T h cells slots) {z : Int32} {q : Nat} (hd : decode bs pc = .ok (.ldc q, 2)) (hw : (Cond.constant own q z).before a0 Z = true) (hp : pc + 2 = pc')
    (w : W p e below s R n0 Q (T.setTop (mkF m pc' Ls (.int z :: st)))) : W p e below s R n0 Q (T.setTop (mkF m pc Ls (st))) := by
  obtain ⟨locs, X, eT, N, hs0, hcl, hsl, hx, hZ, rfl, hml, hown, hnm, hret, hlk⟩ := X
  subst hp
  exact W.of (fun t k => X.ldcInt (own := own) (v := z) hx hown (mvT (args := args) (s := s) hZ hw rfl) (g := mkF m pc Ls st) rfl hd _ k) w
theorem w_ldc2 (X : Sn Z n0 bs mx own nm ret p l e R s m args below meth c T h cells slots) {z : Int64} {q : Nat} (hd : decode bs pc = .ok (.ldc2_w q, 3)) (hw : (Cond.constantLong own q z).before a0 Z = true) (hp : pc + 3 = pc')
    (w : W p e below s R n0 Q (T.setTop (mkF m pc' Ls (.long z :: st)))) : W p e below s R n0 Q (T.setTop (mkF m pc Ls (st))) := by
  obtain ⟨locs, X, eT, N, hs0, hcl, hsl, hx, hZ, rfl, hml, hown, hnm, hret, hlk⟩ := X
  subst hp
  exact W.of (fun t k => X.ldc2Long (own := own) (v := z) hx hown (mvT (args := args) (s := s) hZ hw rfl) (g := mkF m pc Ls st) rfl hd _ k) w
theorem w_iadd (X : Sn Z n0 bs mx own nm ret p l e R s m args below meth c T h cells slots) {x y : Int32} (hd : decode bs pc = .ok (.iadd, 1)) (hp : pc + 1 = pc')
    (w : W p e below s R n0 Q (T.setTop (mkF m pc' Ls (.int (x + y) :: st)))) : W p e below s R n0 Q (T.setTop (mkF m pc Ls (.int y :: .int x :: st))) := by
  obtain ⟨locs, X, eT, N, hs0, hcl, hsl, hx, hZ, rfl, hml, hown, hnm, hret, hlk⟩ := X
  subst hp
  exact W.of (fun t k => XS.iadd X.here hx rfl hd rfl k) w
theorem w_ladd (X : Sn Z n0 bs mx own nm ret p l e R s m args below meth c T h cells slots) {x y : Int64} (hd : decode bs pc = .ok (.ladd, 1)) (hp : pc + 1 = pc')
    (w : W p e below s R n0 Q (T.setTop (mkF m pc' Ls (.long (x + y) :: st)))) : W p e below s R n0 Q (T.setTop (mkF m pc Ls (.long y :: .long x :: st))) := by
  obtain ⟨locs, X, eT, N, hs0, hcl, hsl, hx, hZ, rfl, hml, hown, hnm, hret, hlk⟩ := X
  subst hp
  exact W.of (fun t k => XS.ladd X.here hx rfl hd rfl k) w
theorem w_isub (X : Sn Z n0 bs mx own nm ret p l e R s m args below meth c T h cells slots) {x y : Int32} (hd : decode bs pc = .ok (.isub, 1)) (hp : pc + 1 = pc')
    (w : W p e below s R n0 Q (T.setTop (mkF m pc' Ls (.int (x - y) :: st)))) : W p e below s R n0 Q (T.setTop (mkF m pc Ls (.int y :: .int x :: st))) := by
  obtain ⟨locs, X, eT, N, hs0, hcl, hsl, hx, hZ, rfl, hml, hown, hnm, hret, hlk⟩ := X
  subst hp
  exact W.of (fun t k => XS.isub X.here hx rfl hd rfl k) w
theorem w_lsub (X : Sn Z n0 bs mx own nm ret p l e R s m args below meth c T h cells slots) {x y : Int64} (hd : decode bs pc = .ok (.lsub, 1)) (hp : pc + 1 = pc')
    (w : W p e below s R n0 Q (T.setTop (mkF m pc' Ls (.long (x - y) :: st)))) : W p e below s R n0 Q (T.setTop (mkF m pc Ls (.long y :: .long x :: st))) := by
  obtain ⟨locs, X, eT, N, hs0, hcl, hsl, hx, hZ, rfl, hml, hown, hnm, hret, hlk⟩ := X
  subst hp
  exact W.of (fun t k => XS.lsub X.here hx rfl hd rfl k) w
theorem w_imul (X : Sn Z n0 bs mx own nm ret p l e R s m args below meth c T h cells slots) {x y : Int32} (hd : decode bs pc = .ok (.imul, 1)) (hp : pc + 1 = pc')
    (w : W p e below s R n0 Q (T.setTop (mkF m pc' Ls (.int (x * y) :: st)))) : W p e below s R n0 Q (T.setTop (mkF m pc Ls (.int y :: .int x :: st))) := by
  obtain ⟨locs, X, eT, N, hs0, hcl, hsl, hx, hZ, rfl, hml, hown, hnm, hret, hlk⟩ := X
  subst hp
  exact W.of (fun t k => XS.imul X.here hx rfl hd rfl k) w
theorem w_lmul (X : Sn Z n0 bs mx own nm ret p l e R s m args below meth c T h cells slots) {x y : Int64} (hd : decode bs pc = .ok (.lmul, 1)) (hp : pc + 1 = pc')
    (w : W p e below s R n0 Q (T.setTop (mkF m pc' Ls (.long (x * y) :: st)))) : W p e below s R n0 Q (T.setTop (mkF m pc Ls (.long y :: .long x :: st))) := by
  obtain ⟨locs, X, eT, N, hs0, hcl, hsl, hx, hZ, rfl, hml, hown, hnm, hret, hlk⟩ := X
  subst hp
  exact W.of (fun t k => XS.lmul X.here hx rfl hd rfl k) w
theorem w_iand (X : Sn Z n0 bs mx own nm ret p l e R s m args below meth c T h cells slots) {x y : Int32} (hd : decode bs pc = .ok (.iand, 1)) (hp : pc + 1 = pc')
    (w : W p e below s R n0 Q (T.setTop (mkF m pc' Ls (.int (x &&& y) :: st)))) : W p e below s R n0 Q (T.setTop (mkF m pc Ls (.int y :: .int x :: st))) := by
  obtain ⟨locs, X, eT, N, hs0, hcl, hsl, hx, hZ, rfl, hml, hown, hnm, hret, hlk⟩ := X
  subst hp
  exact W.of (fun t k => XS.iand X.here hx rfl hd rfl k) w
theorem w_land (X : Sn Z n0 bs mx own nm ret p l e R s m args below meth c T h cells slots) {x y : Int64} (hd : decode bs pc = .ok (.land, 1)) (hp : pc + 1 = pc')
    (w : W p e below s R n0 Q (T.setTop (mkF m pc' Ls (.long (x &&& y) :: st)))) : W p e below s R n0 Q (T.setTop (mkF m pc Ls (.long y :: .long x :: st))) := by
  obtain ⟨locs, X, eT, N, hs0, hcl, hsl, hx, hZ, rfl, hml, hown, hnm, hret, hlk⟩ := X
  subst hp
  exact W.of (fun t k => XS.land X.here hx rfl hd rfl k) w
theorem w_ior (X : Sn Z n0 bs mx own nm ret p l e R s m args below meth c T h cells slots) {x y : Int32} (hd : decode bs pc = .ok (.ior, 1)) (hp : pc + 1 = pc')
    (w : W p e below s R n0 Q (T.setTop (mkF m pc' Ls (.int (x ||| y) :: st)))) : W p e below s R n0 Q (T.setTop (mkF m pc Ls (.int y :: .int x :: st))) := by
  obtain ⟨locs, X, eT, N, hs0, hcl, hsl, hx, hZ, rfl, hml, hown, hnm, hret, hlk⟩ := X
  subst hp
  exact W.of (fun t k => XS.ior X.here hx rfl hd rfl k) w
theorem w_lor (X : Sn Z n0 bs mx own nm ret p l e R s m args below meth c T h cells slots) {x y : Int64} (hd : decode bs pc = .ok (.lor, 1)) (hp : pc + 1 = pc')
    (w : W p e below s R n0 Q (T.setTop (mkF m pc' Ls (.long (x ||| y) :: st)))) : W p e below s R n0 Q (T.setTop (mkF m pc Ls (.long y :: .long x :: st))) := by
  obtain ⟨locs, X, eT, N, hs0, hcl, hsl, hx, hZ, rfl, hml, hown, hnm, hret, hlk⟩ := X
  subst hp
  exact W.of (fun t k => XS.lor X.here hx rfl hd rfl k) w
theorem w_ixor (X : Sn Z n0 bs mx own nm ret p l e R s m args below meth c T h cells slots) {x y : Int32} (hd : decode bs pc = .ok (.ixor, 1)) (hp : pc + 1 = pc')
    (w : W p e below s R n0 Q (T.setTop (mkF m pc' Ls (.int (x ^^^ y) :: st)))) : W p e below s R n0 Q (T.setTop (mkF m pc Ls (.int y :: .int x :: st))) := by
  obtain ⟨locs, X, eT, N, hs0, hcl, hsl, hx, hZ, rfl, hml, hown, hnm, hret, hlk⟩ := X
  subst hp
  exact W.of (fun t k => XS.ixor X.here hx rfl hd rfl k) w
theorem w_lxor (X : Sn Z n0 bs mx own nm ret p l e R s m args below meth c T h cells slots) {x y : Int64} (hd : decode bs pc = .ok (.lxor, 1)) (hp : pc + 1 = pc')
    (w : W p e below s R n0 Q (T.setTop (mkF m pc' Ls (.long (x ^^^ y) :: st)))) : W p e below s R n0 Q (T.setTop (mkF m pc Ls (.long y :: .long x :: st))) := by
  obtain ⟨locs, X, eT, N, hs0, hcl, hsl, hx, hZ, rfl, hml, hown, hnm, hret, hlk⟩ := X
  subst hp
  exact W.of (fun t k => XS.lxor X.here hx rfl hd rfl k) w
theorem w_ishl (X : Sn Z n0 bs mx own nm ret p l e R s m args below meth c T h cells slots) {x y : Int32} (hd : decode bs pc = .ok (.ishl, 1)) (hp : pc + 1 = pc')
    (w : W p e below s R n0 Q (T.setTop (mkF m pc' Ls (.int (isl x y) :: st)))) : W p e below s R n0 Q (T.setTop (mkF m pc Ls (.int y :: .int x :: st))) := by
  obtain ⟨locs, X, eT, N, hs0, hcl, hsl, hx, hZ, rfl, hml, hown, hnm, hret, hlk⟩ := X
  subst hp
  exact W.of (fun t k => XS.ishl X.here hx rfl hd rfl k) w
theorem w_ishr (X : Sn Z n0 bs mx own nm ret p l e R s m args below meth c T h cells slots) {x y : Int32} (hd : decode bs pc = .ok (.ishr, 1)) (hp : pc + 1 = pc')
    (w : W p e below s R n0 Q (T.setTop (mkF m pc' Ls (.int (isr x y) :: st)))) : W p e below s R n0 Q (T.setTop (mkF m pc Ls (.int y :: .int x :: st))) := by
  obtain ⟨locs, X, eT, N, hs0, hcl, hsl, hx, hZ, rfl, hml, hown, hnm, hret, hlk⟩ := X
  subst hp
  exact W.of (fun t k => XS.ishr X.here hx rfl hd rfl k) w
theorem w_iushr (X : Sn Z n0 bs mx own nm ret p l e R s m args below meth c T h cells slots) {x y : Int32} (hd : decode bs pc = .ok (.iushr, 1)) (hp : pc + 1 = pc')
    (w : W p e below s R n0 Q (T.setTop (mkF m pc' Ls (.int (ius x y) :: st)))) : W p e below s R n0 Q (T.setTop (mkF m pc Ls (.int y :: .int x :: st))) := by
  obtain ⟨locs, X, eT, N, hs0, hcl, hsl, hx, hZ, rfl, hml, hown, hnm, hret, hlk⟩ := X
  subst hp
  exact W.of (fun t k => XS.iushr X.here hx rfl hd rfl k) w
theorem w_lshl (X : Sn Z n0 bs mx own nm ret p l e R s m args below meth c T h cells slots) {x : Int64} {y : Int32} (hd : decode bs pc = .ok (.lshl, 1)) (hp : pc + 1 = pc')
    (w : W p e below s R n0 Q (T.setTop (mkF m pc' Ls (.long (lsl x y) :: st)))) : W p e below s R n0 Q (T.setTop (mkF m pc Ls (.int y :: .long x :: st))) := by
  obtain ⟨locs, X, eT, N, hs0, hcl, hsl, hx, hZ, rfl, hml, hown, hnm, hret, hlk⟩ := X
  subst hp
  exact W.of (fun t k => XS.lshl X.here hx rfl hd rfl k) w
theorem w_lshr (X : Sn Z n0 bs mx own nm ret p l e R s m args below meth c T h cells slots) {x : Int64} {y : Int32} (hd : decode bs pc = .ok (.lshr, 1)) (hp : pc + 1 = pc')
    (w : W p e below s R n0 Q (T.setTop (mkF m pc' Ls (.long (lsr x y) :: st)))) : W p e below s R n0 Q (T.setTop (mkF m pc Ls (.int y :: .long x :: st))) := by
  obtain ⟨locs, X, eT, N, hs0, hcl, hsl, hx, hZ, rfl, hml, hown, hnm, hret, hlk⟩ := X
  subst hp
  exact W.of (fun t k => XS.lshr X.here hx rfl hd rfl k) w
theorem w_lushr (X : Sn Z n0 bs mx own nm ret p l e R s m args below meth c T h cells slots) {x : Int64} {y : Int32} (hd : decode bs pc = .ok (.lushr, 1)) (hp : pc + 1 = pc')
    (w : W p e below s R n0 Q (T.setTop (mkF m pc' Ls (.long (lus x y) :: st)))) : W p e below s R n0 Q (T.setTop (mkF m pc Ls (.int y :: .long x :: st))) := by
  obtain ⟨locs, X, eT, N, hs0, hcl, hsl, hx, hZ, rfl, hml, hown, hnm, hret, hlk⟩ := X
  subst hp
  exact W.of (fun t k => XS.lushr X.here hx rfl hd rfl k) w
theorem w_idiv (X : Sn Z n0 bs mx own nm ret p l e R s m args below meth c T h cells slots) {x y : Int32} (hd : decode bs pc = .ok (.idiv, 1)) (hy : y ≠ 0) (hp : pc + 1 = pc')
    (w : W p e below s R n0 Q (T.setTop (mkF m pc' Ls (.int (x / y) :: st)))) : W p e below s R n0 Q (T.setTop (mkF m pc Ls (.int y :: .int x :: st))) := by
  obtain ⟨locs, X, eT, N, hs0, hcl, hsl, hx, hZ, rfl, hml, hown, hnm, hret, hlk⟩ := X
  subst hp
  exact W.of (fun t k => XS.idiv X.here hx rfl hd rfl hy k) w
theorem w_irem (X : Sn Z n0 bs mx own nm ret p l e R s m args below meth c T h cells slots) {x y : Int32} (hd : decode bs pc = .ok (.irem, 1)) (hy : y ≠ 0) (hp : pc + 1 = pc')
    (w : W p e below s R n0 Q (T.setTop (mkF m pc' Ls (.int (x % y) :: st)))) : W p e below s R n0 Q (T.setTop (mkF m pc Ls (.int y :: .int x :: st))) := by
  obtain ⟨locs, X, eT, N, hs0, hcl, hsl, hx, hZ, rfl, hml, hown, hnm, hret, hlk⟩ := X
  subst hp
  exact W.of (fun t k => iremM X hx rfl hd rfl hy k) w
theorem w_ineg (X : Sn Z n0 bs mx own nm ret p l e R s m args below meth c T h cells slots) {x : Int32} (hd : decode bs pc = .ok (.ineg, 1)) (hp : pc + 1 = pc')
    (w : W p e below s R n0 Q (T.setTop (mkF m pc' Ls (.int (-x) :: st)))) : W p e below s R n0 Q (T.setTop (mkF m pc Ls (.int x :: st))) := by
  obtain ⟨locs, X, eT, N, hs0, hcl, hsl, hx, hZ, rfl, hml, hown, hnm, hret, hlk⟩ := X
  subst hp
  exact W.of (fun t k => XS.ineg X.here hx rfl hd rfl k) w
theorem w_lneg (X : Sn Z n0 bs mx own nm ret p l e R s m args below meth c T h cells slots) {x : Int64} (hd : decode bs pc = .ok (.lneg, 1)) (hp : pc + 1 = pc')
    (w : W p e below s R n0 Q (T.setTop (mkF m pc' Ls (.long (-x) :: st)))) : W p e below s R n0 Q (T.setTop (mkF m pc Ls (.long x :: st))) := by
  obtain ⟨locs, X, eT, N, hs0, hcl, hsl, hx, hZ, rfl, hml, hown, hnm, hret, hlk⟩ := X
  subst hp
  exact W.of (fun t k => XS.lneg X.here hx rfl hd rfl k) w
theorem w_i2l (X : Sn Z n0 bs mx own nm ret p l e R s m args below meth c T h cells slots) {x : Int32} (hd : decode bs pc = .ok (.i2l, 1)) (hp : pc + 1 = pc')
    (w : W p e below s R n0 Q (T.setTop (mkF m pc' Ls (.long x.toInt64 :: st)))) : W p e below s R n0 Q (T.setTop (mkF m pc Ls (.int x :: st))) := by
  obtain ⟨locs, X, eT, N, hs0, hcl, hsl, hx, hZ, rfl, hml, hown, hnm, hret, hlk⟩ := X
  subst hp
  exact W.of (fun t k => XS.i2l X.here hx rfl hd rfl k) w
theorem w_l2i (X : Sn Z n0 bs mx own nm ret p l e R s m args below meth c T h cells slots) {x : Int64} (hd : decode bs pc = .ok (.l2i, 1)) (hp : pc + 1 = pc')
    (w : W p e below s R n0 Q (T.setTop (mkF m pc' Ls (.int x.toInt32 :: st)))) : W p e below s R n0 Q (T.setTop (mkF m pc Ls (.long x :: st))) := by
  obtain ⟨locs, X, eT, N, hs0, hcl, hsl, hx, hZ, rfl, hml, hown, hnm, hret, hlk⟩ := X
  subst hp
  exact W.of (fun t k => XS.l2i X.here hx rfl hd rfl k) w
theorem w_i2b (X : Sn Z n0 bs mx own nm ret p l e R s m args below meth c T h cells slots) {x : Int32} (hd : decode bs pc = .ok (.i2b, 1)) (hp : pc + 1 = pc')
    (w : W p e below s R n0 Q (T.setTop (mkF m pc' Ls (.int x.toInt8.toInt32 :: st)))) : W p e below s R n0 Q (T.setTop (mkF m pc Ls (.int x :: st))) := by
  obtain ⟨locs, X, eT, N, hs0, hcl, hsl, hx, hZ, rfl, hml, hown, hnm, hret, hlk⟩ := X
  subst hp
  exact W.of (fun t k => XS.i2b X.here hx rfl hd rfl k) w
theorem w_i2s (X : Sn Z n0 bs mx own nm ret p l e R s m args below meth c T h cells slots) {x : Int32} (hd : decode bs pc = .ok (.i2s, 1)) (hp : pc + 1 = pc')
    (w : W p e below s R n0 Q (T.setTop (mkF m pc' Ls (.int x.toInt16.toInt32 :: st)))) : W p e below s R n0 Q (T.setTop (mkF m pc Ls (.int x :: st))) := by
  obtain ⟨locs, X, eT, N, hs0, hcl, hsl, hx, hZ, rfl, hml, hown, hnm, hret, hlk⟩ := X
  subst hp
  exact W.of (fun t k => XS.i2s X.here hx rfl hd rfl k) w
theorem w_dup (X : Sn Z n0 bs mx own nm ret p l e R s m args below meth c T h cells slots) {v : Value} (hd : decode bs pc = .ok (.dup, 1)) (hv : v.category = 1) (hp : pc + 1 = pc')
    (w : W p e below s R n0 Q (T.setTop (mkF m pc' Ls (v :: v :: st)))) : W p e below s R n0 Q (T.setTop (mkF m pc Ls (v :: st))) := by
  obtain ⟨locs, X, eT, N, hs0, hcl, hsl, hx, hZ, rfl, hml, hown, hnm, hret, hlk⟩ := X
  subst hp
  exact W.of (fun t k => XS.dup X.here hx rfl hd rfl hv k) w
theorem w_dup2 (X : Sn Z n0 bs mx own nm ret p l e R s m args below meth c T h cells slots) {v u : Value} (hd : decode bs pc = .ok (.dup2, 1)) (hv : v.category = 1) (hu : u.category = 1) (hp : pc + 1 = pc')
    (w : W p e below s R n0 Q (T.setTop (mkF m pc' Ls (v :: u :: v :: u :: st)))) : W p e below s R n0 Q (T.setTop (mkF m pc Ls (v :: u :: st))) := by
  obtain ⟨locs, X, eT, N, hs0, hcl, hsl, hx, hZ, rfl, hml, hown, hnm, hret, hlk⟩ := X
  subst hp
  exact W.of (fun t k => XT.dup2 X.here hx rfl hd rfl hv hu k) w
theorem w_pop (X : Sn Z n0 bs mx own nm ret p l e R s m args below meth c T h cells slots) {v : Value} (hd : decode bs pc = .ok (.pop, 1)) (hv : v.category = 1) (hp : pc + 1 = pc')
    (w : W p e below s R n0 Q (T.setTop (mkF m pc' Ls (st)))) : W p e below s R n0 Q (T.setTop (mkF m pc Ls (v :: st))) := by
  obtain ⟨locs, X, eT, N, hs0, hcl, hsl, hx, hZ, rfl, hml, hown, hnm, hret, hlk⟩ := X
  subst hp
  exact W.of (fun t k => XS.pop X.here hx rfl hd rfl hv k) w
theorem w_iinc (X : Sn Z n0 bs mx own nm ret p l e R s m args below meth c T h cells slots) {x z : Int32} (hd : decode bs pc = .ok (.iinc k o, 3)) (hl : Ls[k]? = some (.val (.int x))) (hz : x + Int32.ofInt o = z) (hl' : storeLocals Ls k (.int z) = some L') (hp : pc + 3 = pc')
    (w : W p e below s R n0 Q (T.setTop (mkF m pc' L' (st)))) : W p e below s R n0 Q (T.setTop (mkF m pc Ls (st))) := by
  obtain ⟨locs, X, eT, N, hs0, hcl, hsl, hx, hZ, rfl, hml, hown, hnm, hret, hlk⟩ := X
  subst hp hz
  exact W.of (fun t k => XS.iinc X.here hx rfl hd hl hl' k) w
theorem w_goto (X : Sn Z n0 bs mx own nm ret p l e R s m args below meth c T h cells slots) (hd : decode bs pc = .ok (.goto o, 3)) (hp : 0 ≤ (pc : Int) + o ∧ ((pc : Int) + o).toNat = pc')
    (w : W p e below s R n0 Q (T.setTop (mkF m pc' Ls (st)))) : W p e below s R n0 Q (T.setTop (mkF m pc Ls (st))) := by
  obtain ⟨locs, X, eT, N, hs0, hcl, hsl, hx, hZ, rfl, hml, hown, hnm, hret, hlk⟩ := X
  exact W.of (fun t k => XS.goto X.here hx rfl rfl hd hp.1 hp.2 k) w
theorem hI_eq {x y : Int32} : if_icmp.holds .eq x y = decide (x = y) := by by_cases q : x = y <;> simp [q, (teq · |>.1), (feq · |>.1)]
theorem hI_ne {x y : Int32} : if_icmp.holds .ne x y = decide (x ≠ y) := by by_cases q : x = y <;> simp [q, (teq · |>.2), (feq · |>.2)]
theorem hI_lt {x y : Int32} : if_icmp.holds .lt x y = decide (x.toInt < y.toInt) := by
  by_cases q : x < y
  · rw [(tlt q).1]; exact (decide_eq_true (Int32.lt_iff_toInt_lt.mp q)).symm
  · rw [(flt q).1]; exact (decide_eq_false fun z => q (Int32.lt_iff_toInt_lt.mpr z)).symm
theorem hI_ge {x y : Int32} : if_icmp.holds .ge x y = decide (x.toInt ≥ y.toInt) := by
  by_cases q : x < y
  · rw [(tlt q).2.1]; exact (decide_eq_false fun z => by have := Int32.lt_iff_toInt_lt.mp q; omega).symm
  · rw [(flt q).2.1]; exact (decide_eq_true (by rw [Int32.lt_iff_toInt_lt] at q; omega)).symm
theorem hI_gt {x y : Int32} : if_icmp.holds .gt x y = decide (x.toInt > y.toInt) := by
  by_cases q : y < x
  · rw [(tlt q).2.2.1]; exact (decide_eq_true (Int32.lt_iff_toInt_lt.mp q)).symm
  · rw [(flt q).2.2.1]; exact (decide_eq_false fun z => q (Int32.lt_iff_toInt_lt.mpr z)).symm
theorem hI_le {x y : Int32} : if_icmp.holds .le x y = decide (x.toInt ≤ y.toInt) := by
  by_cases q : y < x
  · rw [(tlt q).2.2.2]; exact (decide_eq_false fun z => by have := Int32.lt_iff_toInt_lt.mp q; omega).symm
  · rw [(flt q).2.2.2]; exact (decide_eq_true (by rw [Int32.lt_iff_toInt_lt] at q; omega)).symm
theorem w_icmp_eq (X : Sn Z n0 bs mx own nm ret p l e R s m args below meth c T h cells slots) {x y : Int32} (hd : decode bs pc = .ok (.if_icmp .eq o, 3)) (hp : 0 ≤ (pc : Int) + o ∧ ((pc : Int) + o).toNat = pc1 ∧ pc + 3 = pc2)
    (yes : x = y → W p e below s R n0 Q (T.setTop (mkF m pc1 Ls (st)))) (no : x ≠ y → W p e below s R n0 Q (T.setTop (mkF m pc2 Ls (st)))) : W p e below s R n0 Q (T.setTop (mkF m pc Ls (.int y :: .int x :: st))) := by
  obtain ⟨locs, X, eT, N, hs0, hcl, hsl, hx, hZ, rfl, hml, hown, hnm, hret, hlk⟩ := X
  by_cases z : x = y
  · exact W.of (fun t k => XS.icmpYes X.here hx rfl rfl hd rfl (hI_eq.trans (decide_eq_true z)) hp.1 hp.2.1 k) (yes z)
  · have w := no (z)
    rw [← hp.2.2] at w
    exact W.of (fun t k => XS.icmpNo X.here hx rfl hd rfl (hI_eq.trans (decide_eq_false z)) k) w
theorem w_if_eq (X : Sn Z n0 bs mx own nm ret p l e R s m args below meth c T h cells slots) {x : Int32} (hd : decode bs pc = .ok (.ifCond .eq o, 3)) (hp : 0 ≤ (pc : Int) + o ∧ ((pc : Int) + o).toNat = pc1 ∧ pc + 3 = pc2)
    (yes : x = 0 → W p e below s R n0 Q (T.setTop (mkF m pc1 Ls (st)))) (no : x ≠ 0 → W p e below s R n0 Q (T.setTop (mkF m pc2 Ls (st)))) : W p e below s R n0 Q (T.setTop (mkF m pc Ls (.int x :: st))) := by
  obtain ⟨locs, X, eT, N, hs0, hcl, hsl, hx, hZ, rfl, hml, hown, hnm, hret, hlk⟩ := X
  have hq : ifCond.holds .eq x = decide (x = 0) := (if0 _ _).trans hI_eq
  by_cases z : x = 0
  · exact W.of (fun t k => XS.ifYes X.here hx rfl rfl hd rfl (hq.trans (decide_eq_true z)) hp.1 hp.2.1 k) (yes z)
  · have w := no (z)
    rw [← hp.2.2] at w
    exact W.of (fun t k => XS.ifNo X.here hx rfl hd rfl (hq.trans (decide_eq_false z)) k) w
theorem w_icmp_ne (X : Sn Z n0 bs mx own nm ret p l e R s m args below meth c T h cells slots) {x y : Int32} (hd : decode bs pc = .ok (.if_icmp .ne o, 3)) (hp : 0 ≤ (pc : Int) + o ∧ ((pc : Int) + o).toNat = pc1 ∧ pc + 3 = pc2)
    (yes : x ≠ y → W p e below s R n0 Q (T.setTop (mkF m pc1 Ls (st)))) (no : x = y → W p e below s R n0 Q (T.setTop (mkF m pc2 Ls (st)))) : W p e below s R n0 Q (T.setTop (mkF m pc Ls (.int y :: .int x :: st))) := by
  obtain ⟨locs, X, eT, N, hs0, hcl, hsl, hx, hZ, rfl, hml, hown, hnm, hret, hlk⟩ := X
  by_cases z : x ≠ y
  · exact W.of (fun t k => XS.icmpYes X.here hx rfl rfl hd rfl (hI_ne.trans (decide_eq_true z)) hp.1 hp.2.1 k) (yes z)
  · have w := no (Classical.byContradiction fun u => z u)
    rw [← hp.2.2] at w
    exact W.of (fun t k => XS.icmpNo X.here hx rfl hd rfl (hI_ne.trans (decide_eq_false z)) k) w
theorem w_if_ne (X : Sn Z n0 bs mx own nm ret p l e R s m args below meth c T h cells slots) {x : Int32} (hd : decode bs pc = .ok (.ifCond .ne o, 3)) (hp : 0 ≤ (pc : Int) + o ∧ ((pc : Int) + o).toNat = pc1 ∧ pc + 3 = pc2)
    (yes : x ≠ 0 → W p e below s R n0 Q (T.setTop (mkF m pc1 Ls (st)))) (no : x = 0 → W p e below s R n0 Q (T.setTop (mkF m pc2 Ls (st)))) : W p e below s R n0 Q (T.setTop (mkF m pc Ls (.int x :: st))) := by
  obtain ⟨locs, X, eT, N, hs0, hcl, hsl, hx, hZ, rfl, hml, hown, hnm, hret, hlk⟩ := X
  have hq : ifCond.holds .ne x = decide (x ≠ 0) := (if0 _ _).trans hI_ne
  by_cases z : x ≠ 0
  · exact W.of (fun t k => XS.ifYes X.here hx rfl rfl hd rfl (hq.trans (decide_eq_true z)) hp.1 hp.2.1 k) (yes z)
  · have w := no (Classical.byContradiction fun u => z u)
    rw [← hp.2.2] at w
    exact W.of (fun t k => XS.ifNo X.here hx rfl hd rfl (hq.trans (decide_eq_false z)) k) w
theorem w_icmp_lt (X : Sn Z n0 bs mx own nm ret p l e R s m args below meth c T h cells slots) {x y : Int32} (hd : decode bs pc = .ok (.if_icmp .lt o, 3)) (hp : 0 ≤ (pc : Int) + o ∧ ((pc : Int) + o).toNat = pc1 ∧ pc + 3 = pc2)
    (yes : x.toInt < y.toInt → W p e below s R n0 Q (T.setTop (mkF m pc1 Ls (st)))) (no : x.toInt ≥ y.toInt → W p e below s R n0 Q (T.setTop (mkF m pc2 Ls (st)))) : W p e below s R n0 Q (T.setTop (mkF m pc Ls (.int y :: .int x :: st))) := by
  obtain ⟨locs, X, eT, N, hs0, hcl, hsl, hx, hZ, rfl, hml, hown, hnm, hret, hlk⟩ := X
  by_cases z : x.toInt < y.toInt
  · exact W.of (fun t k => XS.icmpYes X.here hx rfl rfl hd rfl (hI_lt.trans (decide_eq_true z)) hp.1 hp.2.1 k) (yes z)
  · have w := no (Int.not_lt.mp z)
    rw [← hp.2.2] at w
    exact W.of (fun t k => XS.icmpNo X.here hx rfl hd rfl (hI_lt.trans (decide_eq_false z)) k) w
theorem w_if_lt (X : Sn Z n0 bs mx own nm ret p l e R s m args below meth c T h cells slots) {x : Int32} (hd : decode bs pc = .ok (.ifCond .lt o, 3)) (hp : 0 ≤ (pc : Int) + o ∧ ((pc : Int) + o).toNat = pc1 ∧ pc + 3 = pc2)
    (yes : x.toInt < 0 → W p e below s R n0 Q (T.setTop (mkF m pc1 Ls (st)))) (no : x.toInt ≥ 0 → W p e below s R n0 Q (T.setTop (mkF m pc2 Ls (st)))) : W p e below s R n0 Q (T.setTop (mkF m pc Ls (.int x :: st))) := by
  obtain ⟨locs, X, eT, N, hs0, hcl, hsl, hx, hZ, rfl, hml, hown, hnm, hret, hlk⟩ := X
  have hq : ifCond.holds .lt x = decide (x.toInt < 0) := (if0 _ _).trans hI_lt
  by_cases z : x.toInt < 0
  · exact W.of (fun t k => XS.ifYes X.here hx rfl rfl hd rfl (hq.trans (decide_eq_true z)) hp.1 hp.2.1 k) (yes z)
  · have w := no (Int.not_lt.mp z)
    rw [← hp.2.2] at w
    exact W.of (fun t k => XS.ifNo X.here hx rfl hd rfl (hq.trans (decide_eq_false z)) k) w
theorem w_icmp_ge (X : Sn Z n0 bs mx own nm ret p l e R s m args below meth c T h cells slots) {x y : Int32} (hd : decode bs pc = .ok (.if_icmp .ge o, 3)) (hp : 0 ≤ (pc : Int) + o ∧ ((pc : Int) + o).toNat = pc1 ∧ pc + 3 = pc2)
    (yes : x.toInt ≥ y.toInt → W p e below s R n0 Q (T.setTop (mkF m pc1 Ls (st)))) (no : x.toInt < y.toInt → W p e below s R n0 Q (T.setTop (mkF m pc2 Ls (st)))) : W p e below s R n0 Q (T.setTop (mkF m pc Ls (.int y :: .int x :: st))) := by
  obtain ⟨locs, X, eT, N, hs0, hcl, hsl, hx, hZ, rfl, hml, hown, hnm, hret, hlk⟩ := X
  by_cases z : x.toInt ≥ y.toInt
  · exact W.of (fun t k => XS.icmpYes X.here hx rfl rfl hd rfl (hI_ge.trans (decide_eq_true z)) hp.1 hp.2.1 k) (yes z)
  · have w := no (Int.not_le.mp z)
    rw [← hp.2.2] at w
    exact W.of (fun t k => XS.icmpNo X.here hx rfl hd rfl (hI_ge.trans (decide_eq_false z)) k) w
theorem w_if_ge (X : Sn Z n0 bs mx own nm ret p l e R s m args below meth c T h cells slots) {x : Int32} (hd : decode bs pc = .ok (.ifCond .ge o, 3)) (hp : 0 ≤ (pc : Int) + o ∧ ((pc : Int) + o).toNat = pc1 ∧ pc + 3 = pc2)
    (yes : x.toInt ≥ 0 → W p e below s R n0 Q (T.setTop (mkF m pc1 Ls (st)))) (no : x.toInt < 0 → W p e below s R n0 Q (T.setTop (mkF m pc2 Ls (st)))) : W p e below s R n0 Q (T.setTop (mkF m pc Ls (.int x :: st))) := by
  obtain ⟨locs, X, eT, N, hs0, hcl, hsl, hx, hZ, rfl, hml, hown, hnm, hret, hlk⟩ := X
  have hq : ifCond.holds .ge x = decide (x.toInt ≥ 0) := (if0 _ _).trans hI_ge
  by_cases z : x.toInt ≥ 0
  · exact W.of (fun t k => XS.ifYes X.here hx rfl rfl hd rfl (hq.trans (decide_eq_true z)) hp.1 hp.2.1 k) (yes z)
  · have w := no (Int.not_le.mp z)
    rw [← hp.2.2] at w
    exact W.of (fun t k => XS.ifNo X.here hx rfl hd rfl (hq.trans (decide_eq_false z)) k) w
theorem w_icmp_gt (X : Sn Z n0 bs mx own nm ret p l e R s m args below meth c T h cells slots) {x y : Int32} (hd : decode bs pc = .ok (.if_icmp .gt o, 3)) (hp : 0 ≤ (pc : Int) + o ∧ ((pc : Int) + o).toNat = pc1 ∧ pc + 3 = pc2)
    (yes : x.toInt > y.toInt → W p e below s R n0 Q (T.setTop (mkF m pc1 Ls (st)))) (no : x.toInt ≤ y.toInt → W p e below s R n0 Q (T.setTop (mkF m pc2 Ls (st)))) : W p e below s R n0 Q (T.setTop (mkF m pc Ls (.int y :: .int x :: st))) := by
  obtain ⟨locs, X, eT, N, hs0, hcl, hsl, hx, hZ, rfl, hml, hown, hnm, hret, hlk⟩ := X
  by_cases z : x.toInt > y.toInt
  · exact W.of (fun t k => XS.icmpYes X.here hx rfl rfl hd rfl (hI_gt.trans (decide_eq_true z)) hp.1 hp.2.1 k) (yes z)
  · have w := no (Int.not_lt.mp z)
    rw [← hp.2.2] at w
    exact W.of (fun t k => XS.icmpNo X.here hx rfl hd rfl (hI_gt.trans (decide_eq_false z)) k) w
theorem w_if_gt (X : Sn Z n0 bs mx own nm ret p l e R s m args below meth c T h cells slots) {x : Int32} (hd : decode bs pc = .ok (.ifCond .gt o, 3)) (hp : 0 ≤ (pc : Int) + o ∧ ((pc : Int) + o).toNat = pc1 ∧ pc + 3 = pc2)
    (yes : x.toInt > 0 → W p e below s R n0 Q (T.setTop (mkF m pc1 Ls (st)))) (no : x.toInt ≤ 0 → W p e below s R n0 Q (T.setTop (mkF m pc2 Ls (st)))) : W p e below s R n0 Q (T.setTop (mkF m pc Ls (.int x :: st))) := by
  obtain ⟨locs, X, eT, N, hs0, hcl, hsl, hx, hZ, rfl, hml, hown, hnm, hret, hlk⟩ := X
  have hq : ifCond.holds .gt x = decide (x.toInt > 0) := (if0 _ _).trans hI_gt
  by_cases z : x.toInt > 0
  · exact W.of (fun t k => XS.ifYes X.here hx rfl rfl hd rfl (hq.trans (decide_eq_true z)) hp.1 hp.2.1 k) (yes z)
  · have w := no (Int.not_lt.mp z)
    rw [← hp.2.2] at w
    exact W.of (fun t k => XS.ifNo X.here hx rfl hd rfl (hq.trans (decide_eq_false z)) k) w
theorem w_icmp_le (X : Sn Z n0 bs mx own nm ret p l e R s m args below meth c T h cells slots) {x y : Int32} (hd : decode bs pc = .ok (.if_icmp .le o, 3)) (hp : 0 ≤ (pc : Int) + o ∧ ((pc : Int) + o).toNat = pc1 ∧ pc + 3 = pc2)
    (yes : x.toInt ≤ y.toInt → W p e below s R n0 Q (T.setTop (mkF m pc1 Ls (st)))) (no : x.toInt > y.toInt → W p e below s R n0 Q (T.setTop (mkF m pc2 Ls (st)))) : W p e below s R n0 Q (T.setTop (mkF m pc Ls (.int y :: .int x :: st))) := by
  obtain ⟨locs, X, eT, N, hs0, hcl, hsl, hx, hZ, rfl, hml, hown, hnm, hret, hlk⟩ := X
  by_cases z : x.toInt ≤ y.toInt
  · exact W.of (fun t k => XS.icmpYes X.here hx rfl rfl hd rfl (hI_le.trans (decide_eq_true z)) hp.1 hp.2.1 k) (yes z)
  · have w := no (Int.not_le.mp z)
    rw [← hp.2.2] at w
    exact W.of (fun t k => XS.icmpNo X.here hx rfl hd rfl (hI_le.trans (decide_eq_false z)) k) w
theorem w_if_le (X : Sn Z n0 bs mx own nm ret p l e R s m args below meth c T h cells slots) {x : Int32} (hd : decode bs pc = .ok (.ifCond .le o, 3)) (hp : 0 ≤ (pc : Int) + o ∧ ((pc : Int) + o).toNat = pc1 ∧ pc + 3 = pc2)
    (yes : x.toInt ≤ 0 → W p e below s R n0 Q (T.setTop (mkF m pc1 Ls (st)))) (no : x.toInt > 0 → W p e below s R n0 Q (T.setTop (mkF m pc2 Ls (st)))) : W p e below s R n0 Q (T.setTop (mkF m pc Ls (.int x :: st))) := by
  obtain ⟨locs, X, eT, N, hs0, hcl, hsl, hx, hZ, rfl, hml, hown, hnm, hret, hlk⟩ := X
  have hq : ifCond.holds .le x = decide (x.toInt ≤ 0) := (if0 _ _).trans hI_le
  by_cases z : x.toInt ≤ 0
  · exact W.of (fun t k => XS.ifYes X.here hx rfl rfl hd rfl (hq.trans (decide_eq_true z)) hp.1 hp.2.1 k) (yes z)
  · have w := no (Int.not_le.mp z)
    rw [← hp.2.2] at w
    exact W.of (fun t k => XS.ifNo X.here hx rfl hd rfl (hq.trans (decide_eq_false z)) k) w
theorem hL {x y : Int64} : (if x > y then (1 : Int32) else if x = y then 0 else -1).toInt = if x.toInt > y.toInt then 1 else if x = y then 0 else -1 := by
  by_cases q : x > y
  · have q' : x.toInt > y.toInt := Int64.lt_iff_toInt_lt.mp q
    rw [if_pos q, if_pos q']; rfl
  · have q' : ¬ x.toInt > y.toInt := fun z => q (Int64.lt_iff_toInt_lt.mpr z)
    rw [if_neg q, if_neg q']
    by_cases r : x = y
    · rw [if_pos r, if_pos r]; rfl
    · rw [if_neg r, if_neg r]; rfl
theorem hL2 {x y : Int64} : ((if x > y then (1 : Int32) else if x = y then 0 else -1).toInt = 1 ∧ x.toInt > y.toInt) ∨ ((if x > y then (1 : Int32) else if x = y then 0 else -1) = 0 ∧ x = y ∧ x.toInt = y.toInt) ∨ ((if x > y then (1 : Int32) else if x = y then 0 else -1).toInt = -1 ∧ x.toInt < y.toInt) := by
  by_cases q : x.toInt > y.toInt
  · left; rw [hL, if_pos q]; exact ⟨rfl, q⟩
  · by_cases r : x = y
    · right; left; subst r; exact ⟨by rw [if_neg (fun z => q (Int64.lt_iff_toInt_lt.mp z)), if_pos rfl], rfl, rfl⟩
    · right; right; rw [hL, if_neg q, if_neg r]; refine ⟨rfl, ?_⟩
      have : x.toInt ≠ y.toInt := fun z => r (Int64.toInt_inj.mp z)
      omega
theorem w_lcif_eq (X : Sn Z n0 bs mx own nm ret p l e R s m args below meth c T h cells slots) {x y : Int64} (hd : decode bs pc = .ok (.lcmp, 1)) (hd2 : decode bs pc' = .ok (.ifCond .eq o, 3)) (hp : pc + 1 = pc' ∧ 0 ≤ (pc' : Int) + o ∧ ((pc' : Int) + o).toNat = pc1 ∧ pc' + 3 = pc2)
    (yes : x = y → W p e below s R n0 Q (T.setTop (mkF m pc1 Ls (st)))) (no : x ≠ y → W p e below s R n0 Q (T.setTop (mkF m pc2 Ls (st)))) : W p e below s R n0 Q (T.setTop (mkF m pc Ls (.long y :: .long x :: st))) := by
  have X' := X
  obtain ⟨locs, X, eT, N, hs0, hcl, hsl, hx, hZ, rfl, hml, hown, hnm, hret, hlk⟩ := X
  refine W.of (fun t k => XS.lcmp X.here hx rfl hd rfl k) ?_
  have e1 : pc + 1 = pc' := hp.1
  show W p e below s R n0 Q (T.setTop (mkF m (pc + 1) Ls (.int (if x > y then 1 else if x = y then 0 else -1) :: st)))
  rw [e1]
  refine w_if_eq X' hd2 hp.2 (fun z => yes ?_) (fun z => no ?_)
  all_goals rcases hL2 (x := x) (y := y) with ⟨q1, q2⟩ | ⟨q1, rfl, -⟩ | ⟨q1, q2⟩
  all_goals first | rfl | exact Int.le_refl _ | (exfalso; rw [z] at q1; revert q1; decide) | (exfalso; exact z q1) | (exfalso; rw [q1] at z; revert z; decide) | (intro u; subst u; exact absurd q2 (Int.lt_irrefl _)) | omega
theorem w_lcif_ne (X : Sn Z n0 bs mx own nm ret p l e R s m args below meth c T h cells slots) {x y : Int64} (hd : decode bs pc = .ok (.lcmp, 1)) (hd2 : decode bs pc' = .ok (.ifCond .ne o, 3)) (hp : pc + 1 = pc' ∧ 0 ≤ (pc' : Int) + o ∧ ((pc' : Int) + o).toNat = pc1 ∧ pc' + 3 = pc2)
    (yes : x ≠ y → W p e below s R n0 Q (T.setTop (mkF m pc1 Ls (st)))) (no : x = y → W p e below s R n0 Q (T.setTop (mkF m pc2 Ls (st)))) : W p e below s R n0 Q (T.setTop (mkF m pc Ls (.long y :: .long x :: st))) := by
  have X' := X
  obtain ⟨locs, X, eT, N, hs0, hcl, hsl, hx, hZ, rfl, hml, hown, hnm, hret, hlk⟩ := X
  refine W.of (fun t k => XS.lcmp X.here hx rfl hd rfl k) ?_
  have e1 : pc + 1 = pc' := hp.1
  show W p e below s R n0 Q (T.setTop (mkF m (pc + 1) Ls (.int (if x > y then 1 else if x = y then 0 else -1) :: st)))
  rw [e1]
  refine w_if_ne X' hd2 hp.2 (fun z => yes ?_) (fun z => no ?_)
  all_goals rcases hL2 (x := x) (y := y) with ⟨q1, q2⟩ | ⟨q1, rfl, -⟩ | ⟨q1, q2⟩
  all_goals first | rfl | exact Int.le_refl _ | (exfalso; rw [z] at q1; revert q1; decide) | (exfalso; exact z q1) | (exfalso; rw [q1] at z; revert z; decide) | (intro u; subst u; exact absurd q2 (Int.lt_irrefl _)) | omega
theorem w_lcif_lt (X : Sn Z n0 bs mx own nm ret p l e R s m args below meth c T h cells slots) {x y : Int64} (hd : decode bs pc = .ok (.lcmp, 1)) (hd2 : decode bs pc' = .ok (.ifCond .lt o, 3)) (hp : pc + 1 = pc' ∧ 0 ≤ (pc' : Int) + o ∧ ((pc' : Int) + o).toNat = pc1 ∧ pc' + 3 = pc2)
    (yes : x.toInt < y.toInt → W p e below s R n0 Q (T.setTop (mkF m pc1 Ls (st)))) (no : x.toInt ≥ y.toInt → W p e below s R n0 Q (T.setTop (mkF m pc2 Ls (st)))) : W p e below s R n0 Q (T.setTop (mkF m pc Ls (.long y :: .long x :: st))) := by
  have X' := X
  obtain ⟨locs, X, eT, N, hs0, hcl, hsl, hx, hZ, rfl, hml, hown, hnm, hret, hlk⟩ := X
  refine W.of (fun t k => XS.lcmp X.here hx rfl hd rfl k) ?_
  have e1 : pc + 1 = pc' := hp.1
  show W p e below s R n0 Q (T.setTop (mkF m (pc + 1) Ls (.int (if x > y then 1 else if x = y then 0 else -1) :: st)))
  rw [e1]
  refine w_if_lt X' hd2 hp.2 (fun z => yes ?_) (fun z => no ?_)
  all_goals rcases hL2 (x := x) (y := y) with ⟨q1, q2⟩ | ⟨q1, rfl, -⟩ | ⟨q1, q2⟩
  all_goals first | rfl | exact Int.le_refl _ | (exfalso; rw [z] at q1; revert q1; decide) | (exfalso; exact z q1) | (exfalso; rw [q1] at z; revert z; decide) | (intro u; subst u; exact absurd q2 (Int.lt_irrefl _)) | omega
theorem w_lcif_ge (X : Sn Z n0 bs mx own nm ret p l e R s m args below meth c T h cells slots) {x y : Int64} (hd : decode bs pc = .ok (.lcmp, 1)) (hd2 : decode bs pc' = .ok (.ifCond .ge o, 3)) (hp : pc + 1 = pc' ∧ 0 ≤ (pc' : Int) + o ∧ ((pc' : Int) + o).toNat = pc1 ∧ pc' + 3 = pc2)
    (yes : x.toInt ≥ y.toInt → W p e below s R n0 Q (T.setTop (mkF m pc1 Ls (st)))) (no : x.toInt < y.toInt → W p e below s R n0 Q (T.setTop (mkF m pc2 Ls (st)))) : W p e below s R n0 Q (T.setTop (mkF m pc Ls (.long y :: .long x :: st))) := by
  have X' := X
  obtain ⟨locs, X, eT, N, hs0, hcl, hsl, hx, hZ, rfl, hml, hown, hnm, hret, hlk⟩ := X
  refine W.of (fun t k => XS.lcmp X.here hx rfl hd rfl k) ?_
  have e1 : pc + 1 = pc' := hp.1
  show W p e below s R n0 Q (T.setTop (mkF m (pc + 1) Ls (.int (if x > y then 1 else if x = y then 0 else -1) :: st)))
  rw [e1]
  refine w_if_ge X' hd2 hp.2 (fun z => yes ?_) (fun z => no ?_)
  all_goals rcases hL2 (x := x) (y := y) with ⟨q1, q2⟩ | ⟨q1, rfl, -⟩ | ⟨q1, q2⟩
  all_goals first | rfl | exact Int.le_refl _ | (exfalso; rw [z] at q1; revert q1; decide) | (exfalso; exact z q1) | (exfalso; rw [q1] at z; revert z; decide) | (intro u; subst u; exact absurd q2 (Int.lt_irrefl _)) | omega
theorem w_lcif_gt (X : Sn Z n0 bs mx own nm ret p l e R s m args below meth c T h cells slots) {x y : Int64} (hd : decode bs pc = .ok (.lcmp, 1)) (hd2 : decode bs pc' = .ok (.ifCond .gt o, 3)) (hp : pc + 1 = pc' ∧ 0 ≤ (pc' : Int) + o ∧ ((pc' : Int) + o).toNat = pc1 ∧ pc' + 3 = pc2)
    (yes : x.toInt > y.toInt → W p e below s R n0 Q (T.setTop (mkF m pc1 Ls (st)))) (no : x.toInt ≤ y.toInt → W p e below s R n0 Q (T.setTop (mkF m pc2 Ls (st)))) : W p e below s R n0 Q (T.setTop (mkF m pc Ls (.long y :: .long x :: st))) := by
  have X' := X
  obtain ⟨locs, X, eT, N, hs0, hcl, hsl, hx, hZ, rfl, hml, hown, hnm, hret, hlk⟩ := X
  refine W.of (fun t k => XS.lcmp X.here hx rfl hd rfl k) ?_
  have e1 : pc + 1 = pc' := hp.1
  show W p e below s R n0 Q (T.setTop (mkF m (pc + 1) Ls (.int (if x > y then 1 else if x = y then 0 else -1) :: st)))
  rw [e1]
  refine w_if_gt X' hd2 hp.2 (fun z => yes ?_) (fun z => no ?_)
  all_goals rcases hL2 (x := x) (y := y) with ⟨q1, q2⟩ | ⟨q1, rfl, -⟩ | ⟨q1, q2⟩
  all_goals first | rfl | exact Int.le_refl _ | (exfalso; rw [z] at q1; revert q1; decide) | (exfalso; exact z q1) | (exfalso; rw [q1] at z; revert z; decide) | (intro u; subst u; exact absurd q2 (Int.lt_irrefl _)) | omega
theorem w_lcif_le (X : Sn Z n0 bs mx own nm ret p l e R s m args below meth c T h cells slots) {x y : Int64} (hd : decode bs pc = .ok (.lcmp, 1)) (hd2 : decode bs pc' = .ok (.ifCond .le o, 3)) (hp : pc + 1 = pc' ∧ 0 ≤ (pc' : Int) + o ∧ ((pc' : Int) + o).toNat = pc1 ∧ pc' + 3 = pc2)
    (yes : x.toInt ≤ y.toInt → W p e below s R n0 Q (T.setTop (mkF m pc1 Ls (st)))) (no : x.toInt > y.toInt → W p e below s R n0 Q (T.setTop (mkF m pc2 Ls (st)))) : W p e below s R n0 Q (T.setTop (mkF m pc Ls (.long y :: .long x :: st))) := by
  have X' := X
  obtain ⟨locs, X, eT, N, hs0, hcl, hsl, hx, hZ, rfl, hml, hown, hnm, hret, hlk⟩ := X
  refine W.of (fun t k => XS.lcmp X.here hx rfl hd rfl k) ?_
  have e1 : pc + 1 = pc' := hp.1
  show W p e below s R n0 Q (T.setTop (mkF m (pc + 1) Ls (.int (if x > y then 1 else if x = y then 0 else -1) :: st)))
  rw [e1]
  refine w_if_le X' hd2 hp.2 (fun z => yes ?_) (fun z => no ?_)
  all_goals rcases hL2 (x := x) (y := y) with ⟨q1, q2⟩ | ⟨q1, rfl, -⟩ | ⟨q1, q2⟩
  all_goals first | rfl | exact Int.le_refl _ | (exfalso; rw [z] at q1; revert q1; decide) | (exfalso; exact z q1) | (exfalso; rw [q1] at z; revert z; decide) | (intro u; subst u; exact absurd q2 (Int.lt_irrefl _)) | omega
theorem w_ifnull_ref (X : Sn Z n0 bs mx own nm ret p l e R s m args below meth c T h cells slots) {b : Addr} (hd : decode bs pc = .ok (.ifnull o, 3)) (hp : pc + 3 = pc')
    (w : W p e below s R n0 Q (T.setTop (mkF m pc' Ls (st)))) : W p e below s R n0 Q (T.setTop (mkF m pc Ls (.ref b :: st))) := by
  obtain ⟨locs, X, eT, N, hs0, hcl, hsl, hx, hZ, rfl, hml, hown, hnm, hret, hlk⟩ := X
  subst hp
  exact W.of (fun t k => XS.ifnullNo X.here hx rfl hd rfl k) w
theorem w_ifnull_null (X : Sn Z n0 bs mx own nm ret p l e R s m args below meth c T h cells slots) (hd : decode bs pc = .ok (.ifnull o, 3)) (hp : 0 ≤ (pc : Int) + o ∧ ((pc : Int) + o).toNat = pc')
    (w : W p e below s R n0 Q (T.setTop (mkF m pc' Ls (st)))) : W p e below s R n0 Q (T.setTop (mkF m pc Ls (.null :: st))) := by
  obtain ⟨locs, X, eT, N, hs0, hcl, hsl, hx, hZ, rfl, hml, hown, hnm, hret, hlk⟩ := X
  exact W.of (fun t k => XS.ifnullYes X.here hx rfl rfl hd rfl hp.1 hp.2 k) w
theorem idxOf {j : Int32} {i n : Nat} {cl : Cell} (q : j.toInt = i) (hi : i < n) (hn : cl.slots.size = n) : ¬ (j < 0 ∨ cl.slots.size ≤ j.toNatClampNeg) ∧ j.toNatClampNeg = i := by
  have e : j.toNatClampNeg = i := by simp only [Int32.toNatClampNeg]; omega
  refine ⟨?_, e⟩
  rw [e, hn, Int32.lt_iff_toInt_lt]
  have : (0 : Int32).toInt = 0 := rfl
  omega
theorem w_iaload (X : Sn Z n0 bs mx own nm ret p l e R s m args below meth c T h cells slots) {a : Addr} {n i : Nat} {f : Nat → Value} {j : Int32} {v : Value} (F : AF Z h a .int n f) (hd : decode bs pc = .ok (.iaload, 1)) (hj : j.toInt = i) (hi : i < n) (hv : f i = v) (hp : pc + 1 = pc')
    (w : W p e below s R n0 Q (T.setTop (mkF m pc' Ls (v :: st)))) : W p e below s R n0 Q (T.setTop (mkF m pc Ls (.int j :: .ref a :: st))) := by
  obtain ⟨locs, X, eT, N, hs0, hcl, hsl, hx, hZ, rfl, hml, hown, hnm, hret, hlk⟩ := X
  obtain ⟨cl, A, r1, r2, r3⟩ := F
  obtain ⟨q1, q2⟩ := idxOf (cl := cl) hj hi r1
  subst hp hv eT
  exact W.of (fun t k => X.iaload hx (j := j) (v := f i) A.1 (State.isArrayOf_alike hZ.alike A.2.1) A.2.2 q1 (by rw [q2]; exact r3 i hi) (g := mkF m pc Ls (.int j :: .ref a :: st)) rfl rfl hd _ k) w
theorem w_laload (X : Sn Z n0 bs mx own nm ret p l e R s m args below meth c T h cells slots) {a : Addr} {n i : Nat} {f : Nat → Value} {j : Int32} {v : Value} (F : AF Z h a .long n f) (hd : decode bs pc = .ok (.laload, 1)) (hj : j.toInt = i) (hi : i < n) (hv : f i = v) (hp : pc + 1 = pc')
    (w : W p e below s R n0 Q (T.setTop (mkF m pc' Ls (v :: st)))) : W p e below s R n0 Q (T.setTop (mkF m pc Ls (.int j :: .ref a :: st))) := by
  obtain ⟨locs, X, eT, N, hs0, hcl, hsl, hx, hZ, rfl, hml, hown, hnm, hret, hlk⟩ := X
  obtain ⟨cl, A, r1, r2, r3⟩ := F
  obtain ⟨q1, q2⟩ := idxOf (cl := cl) hj hi r1
  subst hp hv eT
  exact W.of (fun t k => X.laload hx (j := j) (v := f i) A.1 (State.isArrayOf_alike hZ.alike A.2.1) A.2.2 q1 (by rw [q2]; exact r3 i hi) (g := mkF m pc Ls (.int j :: .ref a :: st)) rfl rfl hd _ k) w
theorem w_baloadB (X : Sn Z n0 bs mx own nm ret p l e R s m args below meth c T h cells slots) {a : Addr} {n i : Nat} {f : Nat → Value} {j : Int32} {v : Value} (F : AF Z h a .byte n f) (hd : decode bs pc = .ok (.baload, 1)) (hj : j.toInt = i) (hi : i < n) (hv : f i = v) (hp : pc + 1 = pc')
    (w : W p e below s R n0 Q (T.setTop (mkF m pc' Ls (v :: st)))) : W p e below s R n0 Q (T.setTop (mkF m pc Ls (.int j :: .ref a :: st))) := by
  obtain ⟨locs, X, eT, N, hs0, hcl, hsl, hx, hZ, rfl, hml, hown, hnm, hret, hlk⟩ := X
  obtain ⟨cl, A, r1, r2, r3⟩ := F
  obtain ⟨q1, q2⟩ := idxOf (cl := cl) hj hi r1
  subst hp hv eT
  exact W.of (fun t k => X.baloadBytes hx (j := j) (v := f i) A.1 (State.isArrayOf_alike hZ.alike A.2.1) A.2.2 q1 (by rw [q2]; exact r3 i hi) (g := mkF m pc Ls (.int j :: .ref a :: st)) rfl rfl hd _ k) w
theorem w_baloadZ (X : Sn Z n0 bs mx own nm ret p l e R s m args below meth c T h cells slots) {a : Addr} {n i : Nat} {f : Nat → Value} {j : Int32} {v : Value} (F : AF Z h a .boolean n f) (hd : decode bs pc = .ok (.baload, 1)) (hj : j.toInt = i) (hi : i < n) (hv : f i = v) (hp : pc + 1 = pc')
    (w : W p e below s R n0 Q (T.setTop (mkF m pc' Ls (v :: st)))) : W p e below s R n0 Q (T.setTop (mkF m pc Ls (.int j :: .ref a :: st))) := by
  obtain ⟨locs, X, eT, N, hs0, hcl, hsl, hx, hZ, rfl, hml, hown, hnm, hret, hlk⟩ := X
  obtain ⟨cl, A, r1, r2, r3⟩ := F
  obtain ⟨q1, q2⟩ := idxOf (cl := cl) hj hi r1
  subst hp hv eT
  exact W.of (fun t k => X.baloadBooleans hx (j := j) (v := f i) A.1 (State.isArrayOf_alike hZ.alike A.2.1) A.2.2 q1 (by rw [q2]; exact r3 i hi) (g := mkF m pc Ls (.int j :: .ref a :: st)) rfl rfl hd _ k) w
theorem w_iastore (X : Sn Z n0 bs mx own nm ret p l e R s m args below meth c T h cells slots) {a : Addr} {n i : Nat} {f : Nat → Value} {j : Int32} {x : Int32} (F : AF Z h a .int n f) (hd : decode bs pc = .ok (.iastore, 1)) (hj : j.toInt = i) (hi : i < n) (hp : pc + 1 = pc') (ha : n0 ≤ a)
    (w : ∀ T' h', Sn Z n0 bs mx own nm ret p l e R s m args below meth c T' h' cells slots → Wr h h' a i (.int x) → W p e below s R n0 Q (T'.setTop (mkF m pc' Ls (st)))) : W p e below s R n0 Q (T.setTop (mkF m pc Ls (.int x :: .int j :: .ref a :: st))) := by
  obtain ⟨locs, X, eT, N, hs0, hcl, hsl, hx, hZ, rfl, hml, hown, hnm, hret, hlk⟩ := X
  obtain ⟨cl, A, r1, r2, r3⟩ := F
  obtain ⟨q1, q2⟩ := idxOf (cl := cl) hj hi r1
  subst hp
  obtain ⟨T', h', X', e', W', st'⟩ := stI X hx hZ eT A (j := j) q1 (g := mkF m pc Ls (.int x :: .int j :: .ref a :: st)) rfl rfl hd
  rw [q2] at X' W'
  exact W.of st' (w T' h' ⟨_, X', e', Fr.snoc X' N ha, by rw [W'.size]; exact hs0, hcl, hsl, hx, hZ, rfl, hml, hown, hnm, hret, hlk⟩ W')
theorem w_lastore (X : Sn Z n0 bs mx own nm ret p l e R s m args below meth c T h cells slots) {a : Addr} {n i : Nat} {f : Nat → Value} {j : Int32} {x : Int64} (F : AF Z h a .long n f) (hd : decode bs pc = .ok (.lastore, 1)) (hj : j.toInt = i) (hi : i < n) (hp : pc + 1 = pc') (ha : n0 ≤ a)
    (w : ∀ T' h', Sn Z n0 bs mx own nm ret p l e R s m args below meth c T' h' cells slots → Wr h h' a i (.long x) → W p e below s R n0 Q (T'.setTop (mkF m pc' Ls (st)))) : W p e below s R n0 Q (T.setTop (mkF m pc Ls (.long x :: .int j :: .ref a :: st))) := by
  obtain ⟨locs, X, eT, N, hs0, hcl, hsl, hx, hZ, rfl, hml, hown, hnm, hret, hlk⟩ := X
  obtain ⟨cl, A, r1, r2, r3⟩ := F
  obtain ⟨q1, q2⟩ := idxOf (cl := cl) hj hi r1
  subst hp
  obtain ⟨T', h', X', e', W', st'⟩ := stJ X hx hZ eT A (j := j) q1 (g := mkF m pc Ls (.long x :: .int j :: .ref a :: st)) rfl rfl hd
  rw [q2] at X' W'
  exact W.of st' (w T' h' ⟨_, X', e', Fr.snoc X' N ha, by rw [W'.size]; exact hs0, hcl, hsl, hx, hZ, rfl, hml, hown, hnm, hret, hlk⟩ W')
theorem w_bastoreB (X : Sn Z n0 bs mx own nm ret p l e R s m args below meth c T h cells slots) {a : Addr} {n i : Nat} {f : Nat → Value} {j : Int32} {x : Int32} (F : AF Z h a .byte n f) (hd : decode bs pc = .ok (.bastore, 1)) (hj : j.toInt = i) (hi : i < n) (hp : pc + 1 = pc') (ha : n0 ≤ a)
    (w : ∀ T' h', Sn Z n0 bs mx own nm ret p l e R s m args below meth c T' h' cells slots → Wr h h' a i (.int (x.toInt8.toInt32)) → W p e below s R n0 Q (T'.setTop (mkF m pc' Ls (st)))) : W p e below s R n0 Q (T.setTop (mkF m pc Ls (.int x :: .int j :: .ref a :: st))) := by
  obtain ⟨locs, X, eT, N, hs0, hcl, hsl, hx, hZ, rfl, hml, hown, hnm, hret, hlk⟩ := X
  obtain ⟨cl, A, r1, r2, r3⟩ := F
  obtain ⟨q1, q2⟩ := idxOf (cl := cl) hj hi r1
  subst hp
  obtain ⟨T', h', X', e', W', st'⟩ := stB X hx hZ eT A (j := j) q1 (g := mkF m pc Ls (.int x :: .int j :: .ref a :: st)) rfl rfl hd
  rw [q2] at X' W'
  exact W.of st' (w T' h' ⟨_, X', e', Fr.snoc X' N ha, by rw [W'.size]; exact hs0, hcl, hsl, hx, hZ, rfl, hml, hown, hnm, hret, hlk⟩ W')
theorem w_bastoreZ (X : Sn Z n0 bs mx own nm ret p l e R s m args below meth c T h cells slots) {a : Addr} {n i : Nat} {f : Nat → Value} {j : Int32} {x : Int32} (F : AF Z h a .boolean n f) (hd : decode bs pc = .ok (.bastore, 1)) (hj : j.toInt = i) (hi : i < n) (hp : pc + 1 = pc') (ha : n0 ≤ a)
    (w : ∀ T' h', Sn Z n0 bs mx own nm ret p l e R s m args below meth c T' h' cells slots → Wr h h' a i (.int (x &&& 1)) → W p e below s R n0 Q (T'.setTop (mkF m pc' Ls (st)))) : W p e below s R n0 Q (T.setTop (mkF m pc Ls (.int x :: .int j :: .ref a :: st))) := by
  obtain ⟨locs, X, eT, N, hs0, hcl, hsl, hx, hZ, rfl, hml, hown, hnm, hret, hlk⟩ := X
  obtain ⟨cl, A, r1, r2, r3⟩ := F
  obtain ⟨q1, q2⟩ := idxOf (cl := cl) hj hi r1
  subst hp
  obtain ⟨T', h', X', e', W', st'⟩ := stZ X hx hZ eT A (j := j) q1 (g := mkF m pc Ls (.int x :: .int j :: .ref a :: st)) rfl rfl hd
  rw [q2] at X' W'
  exact W.of st' (w T' h' ⟨_, X', e', Fr.snoc X' N ha, by rw [W'.size]; exact hs0, hcl, hsl, hx, hZ, rfl, hml, hown, hnm, hret, hlk⟩ W')
theorem w_arraylength (X : Sn Z n0 bs mx own nm ret p l e R s m args below meth c T h cells slots) {a : Addr} {ty : FieldType} {n : Nat} {f : Nat → Value} {z : Int32} (F : AF Z h a ty n f) (hd : decode bs pc = .ok (.arraylength, 1)) (hz : z.toInt = n) (hp : pc + 1 = pc')
    (w : W p e below s R n0 Q (T.setTop (mkF m pc' Ls (.int z :: st)))) : W p e below s R n0 Q (T.setTop (mkF m pc Ls (.ref a :: st))) := by
  obtain ⟨locs, X, eT, N, hs0, hcl, hsl, hx, hZ, rfl, hml, hown, hnm, hret, hlk⟩ := X
  obtain ⟨cl, A, r1, r2, r3⟩ := F
  subst hp eT
  have e1 : cl.slots.size.toInt32 = z := Int32.toInt_inj.mp (by rw [len_toInt (by rw [r1]; exact r2), hz, r1])
  rw [← e1] at w
  exact W.of (fun t k => X.arraylength hx A.1 (State.isArrayOf_alike hZ.alike A.2.1) (g := mkF m pc Ls (.ref a :: st)) rfl rfl hd _ k) w
theorem w_newarray (X : Sn Z n0 bs mx own nm ret p l e R s m args below meth c T h cells slots) {aty : ArrayType} {z : Int32} {n cap : Nat} (hd : decode bs pc = .ok (.newarray aty, 2)) (w0 : (Cond.arrayClass (newarray.typeOf aty)).before a0 Z = true) (hz : z.toInt = n) (hcap : n ≤ cap) (hr : cap * 8 ≤ 536870912 ∧ cells + 1 ≤ R.cells ∧ slots + cap ≤ R.slots ∧ pc + 2 = pc')
    (w : ∀ T' h' b, Sn Z n0 bs mx own nm ret p l e R s m args below meth c T' h' (cells + 1) (slots + cap) → Ext h h' → b = h.size → n0 ≤ b → AF Z h' b (newarray.typeOf aty) n (fun _ => defaultValue (newarray.typeOf aty)) → W p e below s R n0 Q (T'.setTop (mkF m pc' Ls (.ref b :: st)))) : W p e below s R n0 Q (T.setTop (mkF m pc Ls (.int z :: st))) := by
  obtain ⟨locs, X, eT, N, hs0, hcl, hsl, hx, hZ, rfl, hml, hown, hnm, hret, hlk⟩ := X
  have hn : ¬ z < 0 := by rw [Int32.lt_iff_toInt_lt]; have : (0 : Int32).toInt = 0 := rfl; omega
  obtain ⟨T', h', cA, X', e', E', A', st'⟩ := newP X hx hZ w0 eT (g := mkF m pc Ls (.int z :: st)) rfl hd rfl hn (cap := cap) (by simp only [Int32.toNatClampNeg]; omega) hr.1 hr.2.1 hr.2.2.1
  obtain ⟨-, hr2, hr3, hp⟩ := hr
  subst hp
  exact W.of st' (w T' h' _ ⟨_, X', e', N, Nat.le_trans hs0 E'.1, hr2, hr3, hx, hZ, rfl, hml, hown, hnm, hret, hlk⟩ E' rfl hs0 (AF.new A' hz))
theorem w_ireturn (X : Sn Z n0 bs mx own nm ret p l e R s m args below meth c T h cells slots) {v : Int32} (hd : decode bs pc = .ok (.ireturn, 1)) (hq : ret = some .int) (q : Q (some (.int v)) h) : W p e below s R n0 Q (T.setTop (mkF m pc Ls (.int v :: st))) := by
  obtain ⟨locs, X, eT, N, hs0, hcl, hsl, hx, hZ, rfl, hml, hown, hnm, hret, hlk⟩ := X
  obtain ⟨fs, hr, hrun, hended, hW, hsame⟩ := X.leave (v := some (.int v)) (fun u => by rw [hret, hq] at u; cases u) hlk
  exact ⟨_, _, retOut X hx (hret.trans hq) rfl (Or.inl ⟨rfl, Or.inl rfl, _, rfl⟩) hd hr, hrun, hended, _, locs, rfl, ⟨N, by rw [← eT] at hs0; exact hs0, by rw [← eT] at q; exact q⟩, ⟨_, rfl⟩, hW, hsame.mono hcl hsl⟩
theorem w_lreturn (X : Sn Z n0 bs mx own nm ret p l e R s m args below meth c T h cells slots) {v : Int64} (hd : decode bs pc = .ok (.lreturn, 1)) (hq : ret = some .long) (q : Q (some (.long v)) h) : W p e below s R n0 Q (T.setTop (mkF m pc Ls (.long v :: st))) := by
  obtain ⟨locs, X, eT, N, hs0, hcl, hsl, hx, hZ, rfl, hml, hown, hnm, hret, hlk⟩ := X
  obtain ⟨fs, hr, hrun, hended, hW, hsame⟩ := X.leave (v := some (.long v)) (fun u => by rw [hret, hq] at u; cases u) hlk
  exact ⟨_, _, retOut X hx (hret.trans hq) rfl (Or.inr (Or.inl ⟨rfl, rfl, _, rfl⟩)) hd hr, hrun, hended, _, locs, rfl, ⟨N, by rw [← eT] at hs0; exact hs0, by rw [← eT] at q; exact q⟩, ⟨_, rfl⟩, hW, hsame.mono hcl hsl⟩
theorem w_areturn (X : Sn Z n0 bs mx own nm ret p l e R s m args below meth c T h cells slots) {v : Value} {t : FieldType} (hd : decode bs pc = .ok (.areturn, 1)) (hq : ret = some t) (ht : t.isReference = true) (hv : v.isRef = true) (hn : narrow t v = v) (q : Q (some v) h) : W p e below s R n0 Q (T.setTop (mkF m pc Ls (v :: st))) := by
  obtain ⟨locs, X, eT, N, hs0, hcl, hsl, hx, hZ, rfl, hml, hown, hnm, hret, hlk⟩ := X
  obtain ⟨fs, hr, hrun, hended, hW, hsame⟩ := X.leave (v := some v) (fun u => by rw [hret, hq] at u; cases u) hlk
  exact ⟨_, _, retOut X hx (hret.trans hq) hn (Or.inr (Or.inr (Or.inr (Or.inr ⟨rfl, ht, hv⟩)))) hd hr, hrun, hended, _, locs, rfl, ⟨N, by rw [← eT] at hs0; exact hs0, by rw [← eT] at q; exact q⟩, ⟨_, rfl⟩, hW, hsame.mono hcl hsl⟩
theorem w_nreturn (X : Sn Z n0 bs mx own nm ret p l e R s m args below meth c T h cells slots) {v : Int32} {t : FieldType} (hd : decode bs pc = .ok (.ireturn, 1)) (hq : ret = some t) (ht : t = .boolean ∨ t = .byte ∨ t = .char ∨ t = .short) (q : Q (some (.int (nar t v))) h) : W p e below s R n0 Q (T.setTop (mkF m pc Ls (.int v :: st))) := by
  obtain ⟨locs, X, eT, N, hs0, hcl, hsl, hx, hZ, rfl, hml, hown, hnm, hret, hlk⟩ := X
  obtain ⟨fs, hr, hrun, hended, hW, hsame⟩ := X.leave (v := some (.int (nar t v))) (fun u => by rw [hret, hq] at u; cases u) hlk
  exact ⟨_, _, retN X hx (hret.trans hq) ht hd hr, hrun, hended, _, locs, rfl, ⟨N, by rw [← eT] at hs0; exact hs0, by rw [← eT] at q; exact q⟩, ⟨_, rfl⟩, hW, hsame.mono hcl hsl⟩
theorem w_return (X : Sn Z n0 bs mx own nm ret p l e R s m args below meth c T h cells slots) (hd : decode bs pc = .ok (.return_, 1)) (hq : ret = none) (q : Q (none) h) : W p e below s R n0 Q (T.setTop (mkF m pc Ls ([]))) := by
  obtain ⟨locs, X, eT, N, hs0, hcl, hsl, hx, hZ, rfl, hml, hown, hnm, hret, hlk⟩ := X
  obtain ⟨fs, hr, hrun, hended, hW, hsame⟩ := X.leave (v := none) (fun _ => rfl) hlk
  exact ⟨_, _, X.returnOut hx (hret.trans hq) hd hr, hrun, hended, _, locs, rfl, ⟨N, by rw [← eT] at hs0; exact hs0, by rw [← eT] at q; exact q⟩, ⟨_, rfl⟩, hW, hsame.mono hcl hsl⟩
theorem w_callS (X : Sn Z n0 bs mx own nm ret p l e R s m args below meth c T h cells slots) {index : Nat} {y : MethodName} {b2 : ByteArray} {m2 : Nat} {r2 : Option FieldType} {R2 : Room} {argsL rest : List Value} {wd : Nat} {ps : List FieldType} {r3 : Option FieldType} {Q2 : Option Value → Heap → Prop} 
    (hd : decode bs pc = .ok (.invokestatic index, 3)) (w1 : (Cond.methodLink own index y).before a0 Z = true) (w2 : (Cond.static y).before a0 Z = true) (w3 : (Cond.initialized y.cls).before a0 Z = true) (w4 : (Cond.code y b2 m2 r2).before a0 Z = true)
    (hy : y.cls ≠ "java/lang/invoke/MethodHandle" ∧ y.cls ≠ "java/lang/invoke/VarHandle") (C : Ct l Z y b2 m2 r2 [] R2 argsL.toArray h n0 Q2) (hpd : parseMethodDescriptor y.desc = some ⟨ps, r3⟩) (hlen : argsL.length = ps.length)
    (hst : st = argsL.reverse ++ rest) (hsz : Ls.size = mx) (hwd : (rest.map fun v => v.category).sum ≤ wd) (hr : R2.frames + 1 ≤ R.frames ∧ wd + (m2 + 11) + R2.locals ≤ R.locals ∧ cells + R2.cells ≤ R.cells ∧ slots + R2.slots ≤ R.slots ∧ pc + 3 = pc')
    (w : ∀ v T' h', Sn Z n0 bs mx own nm ret p l e R s m args below meth c T' h' (cells + R2.cells) (slots + R2.slots) → Q2 v h' → W p e below s R n0 Q (T'.setTop (mkF m pc' Ls (v.toList ++ rest)))) : W p e below s R n0 Q (T.setTop (mkF m pc Ls (st))) := by
  obtain ⟨locs, X, eT, N, hs0, hcl, hsl, hx, hZ, rfl, hml, hown, hnm, hret, hlk⟩ := X
  obtain ⟨hr1, hr2, hr3, hr4, hp⟩ := hr
  obtain ⟨v, vm1, ⟨T', L', k', n'⟩, -, X', ⟨Lc, hQ, l', y', z'⟩, st'⟩ := Jvm.LawKit.callS X hx (y := y) hown (mvT hZ w1) (mvT hZ w2) (mvT hZ w3) (mvT hZ w4) hy (backOf (W := wd) (Q := Qc n0 Q2) C hZ w4 w3 hr1 hr2) (g := mkF m pc Ls st) rfl (hsz.trans hml.symm) (argsL := argsL) (rest := rest) (lenOf hpd hlen) hst (by show 2 * 0 + _ ≤ _; omega) hd (fun _ _ => ⟨rfl, eT, hr3, hr4⟩)
  dsimp only [Pt.U, Pt.locs, Pt.cells, Pt.slots] at X' l' y' z' st' hQ
  subst l' y' z' hp
  exact W.of st' (w v T' T'.heap ⟨_, X', rfl, Fr.app N hQ.1, hQ.2.1, hr3, hr4, hx, hZ, rfl, hml, hown, hnm, hret, hlk⟩ hQ.2.2)
theorem w_callC (X : Sn Z n0 bs mx own nm ret p l e R s m args below meth c T h cells slots) {index : Nat} {y : MethodName} {b2 : ByteArray} {m2 : Nat} {R2 : Room} {argsL rest : List Value} {wd : Nat} {ps : List FieldType} {r3 : Option FieldType} {Q2 : Option Value → Heap → Prop} {a : Addr} (hy1 : y.name = "<init>")
    (hd : decode bs pc = .ok (.invokespecial index, 3)) (w1 : (Cond.methodLink own index y).before a0 Z = true) (w2 : (Cond.instanceMethod y).before a0 Z = true) (w3 : (Cond.initialized y.cls).before a0 Z = true) (w4 : (Cond.code y b2 m2 none).before a0 Z = true)
    (hy : y.cls ≠ "java/lang/invoke/MethodHandle" ∧ y.cls ≠ "java/lang/invoke/VarHandle") (C : Ct l Z y b2 m2 none [] R2 (.ref a :: argsL).toArray h n0 Q2) (hpd : parseMethodDescriptor y.desc = some ⟨ps, r3⟩) (hlen : argsL.length = ps.length)
    (hst : st = argsL.reverse ++ .ref a :: rest) (hsz : Ls.size = mx) (hwd : (rest.map fun v => v.category).sum ≤ wd) (hr : R2.frames + 1 ≤ R.frames ∧ wd + (m2 + 11) + R2.locals ≤ R.locals ∧ cells + R2.cells ≤ R.cells ∧ slots + R2.slots ≤ R.slots ∧ pc + 3 = pc')
    (w : ∀ v T' h', Sn Z n0 bs mx own nm ret p l e R s m args below meth c T' h' (cells + R2.cells) (slots + R2.slots) → Q2 v h' → W p e below s R n0 Q (T'.setTop (mkF m pc' Ls (v.toList ++ rest)))) : W p e below s R n0 Q (T.setTop (mkF m pc Ls (st))) := by
  obtain ⟨locs, X, eT, N, hs0, hcl, hsl, hx, hZ, rfl, hml, hown, hnm, hret, hlk⟩ := X
  obtain ⟨hr1, hr2, hr3, hr4, hp⟩ := hr
  obtain ⟨v, vm1, ⟨T', L', k', n'⟩, -, X', ⟨Lc, hQ, l', y', z'⟩, st'⟩ := X.specialBack hx (y := y) hy1 hown (mvT hZ w1) (mvT hZ w2) (mvT hZ w4) hy (backOf (W := wd) (Q := Qc n0 Q2) C hZ w4 w3 hr1 hr2) (g := mkF m pc Ls st) rfl (hsz.trans hml.symm) (Steps.refl _) (a := a) (argsL := argsL) (rest := rest) (lenOf hpd hlen) hst (by show 2 * 0 + _ ≤ _; omega) hd (fun _ _ => ⟨rfl, eT, hr3, hr4⟩)
  dsimp only [Pt.U, Pt.locs, Pt.cells, Pt.slots] at X' l' y' z' st' hQ
  subst l' y' z' hp
  exact W.fwd st' (w v T' T'.heap ⟨_, X', rfl, Fr.app N hQ.1, hQ.2.1, hr3, hr4, hx, hZ, rfl, hml, hown, hnm, hret, hlk⟩ hQ.2.2)
theorem w_callV (X : Sn Z n0 bs mx own nm ret p l e R s m args below meth c T h cells slots) {index : Nat} {y : MethodName} {b2 : ByteArray} {m2 : Nat} {r2 : Option FieldType} {R2 : Room} {argsL rest : List Value} {wd : Nat} {ps : List FieldType} {r3 : Option FieldType} {Q2 : Option Value → Heap → Prop} {a : Addr} {K : String} (E : Exa Z h a K)
    (hd : decode bs pc = .ok (.invokevirtual index, 3)) (w1 : (Cond.methodLink own index y).before a0 Z = true) (wd0 : (Cond.declares y).before a0 Z = true) (ws0 : (Cond.selects K y y).before a0 Z = true) (w2 : (Cond.instanceMethod y).before a0 Z = true) (w3 : (Cond.initialized y.cls).before a0 Z = true) (w4 : (Cond.code y b2 m2 r2).before a0 Z = true)
    (hy : y.cls ≠ "java/lang/invoke/MethodHandle" ∧ y.cls ≠ "java/lang/invoke/VarHandle") (C : Ct l Z y b2 m2 r2 [] R2 (.ref a :: argsL).toArray h n0 Q2) (hpd : parseMethodDescriptor y.desc = some ⟨ps, r3⟩) (hlen : argsL.length = ps.length)
    (hst : st = argsL.reverse ++ .ref a :: rest) (hsz : Ls.size = mx) (hwd : (rest.map fun v => v.category).sum ≤ wd) (hr : R2.frames + 1 ≤ R.frames ∧ wd + (m2 + 11) + R2.locals ≤ R.locals ∧ cells + R2.cells ≤ R.cells ∧ slots + R2.slots ≤ R.slots ∧ pc + 3 = pc')
    (w : ∀ v T' h', Sn Z n0 bs mx own nm ret p l e R s m args below meth c T' h' (cells + R2.cells) (slots + R2.slots) → Q2 v h' → W p e below s R n0 Q (T'.setTop (mkF m pc' Ls (v.toList ++ rest)))) : W p e below s R n0 Q (T.setTop (mkF m pc Ls (st))) := by
  obtain ⟨locs, X, eT, N, hs0, hcl, hsl, hx, hZ, rfl, hml, hown, hnm, hret, hlk⟩ := X
  obtain ⟨hr1, hr2, hr3, hr4, hp⟩ := hr
  obtain ⟨cq, kq, qa, qb, qc⟩ := isOf hZ eT E
  obtain ⟨v, vm1, ⟨T', L', k', n'⟩, -, X', ⟨Lc, hQ, l', y', z'⟩, st'⟩ := X.virtualBack hx (y := y) (z := y) hown (mvT hZ w1) (mvT hZ wd0) (notFace_of_selects (args := #[]) (mvT hZ ws0)) (mvT hZ ws0) (mvT hZ w2) hy (backOf (W := wd) (Q := Qc n0 Q2) C hZ w4 w3 hr1 hr2) qa qc (g := mkF m pc Ls st) rfl (hsz.trans hml.symm) (Steps.refl _) (argsL := argsL) (rest := rest) (lenOf hpd hlen) hst (by show 2 * 0 + _ ≤ _; omega) hd (fun _ _ => ⟨rfl, eT, hr3, hr4⟩)
  dsimp only [Pt.U, Pt.locs, Pt.cells, Pt.slots] at X' l' y' z' st' hQ
  subst l' y' z' hp
  exact W.fwd st' (w v T' T'.heap ⟨_, X', rfl, Fr.app N hQ.1, hQ.2.1, hr3, hr4, hx, hZ, rfl, hml, hown, hnm, hret, hlk⟩ hQ.2.2)
theorem w_initO (X : Sn Z n0 bs mx own nm ret p l e R s m args below meth c T h cells slots) {idx : Nat} {a : Addr} {wd : Nat} (hd : decode bs pc = .ok (.invokespecial idx, 3)) (w1 : (Cond.methodLink own idx Lib.objectInit).before a0 Z = true) (w2 : (Cond.instanceMethod Lib.objectInit).before a0 Z = true) (w3 : (Cond.code Lib.objectInit ⟨#[0xb1]⟩ 1 none).before a0 Z = true)
    (hsz : Ls.size = mx) (hwd : (st.map fun v => v.category).sum ≤ wd) (hr : 1 ≤ R.frames ∧ wd + 12 ≤ R.locals ∧ pc + 3 = pc') (w : ∀ T', Sn Z n0 bs mx own nm ret p l e R s m args below meth c T' h cells slots → W p e below s R n0 Q (T'.setTop (mkF m pc' Ls (st)))) : W p e below s R n0 Q (T.setTop (mkF m pc Ls (.ref a :: st))) := by
  obtain ⟨locs, X, eT, N, hs0, hcl, hsl, hx, hZ, rfl, hml, hown, hnm, hret, hlk⟩ := X
  obtain ⟨hr1, hr2, hp⟩ := hr
  subst hp
  obtain ⟨T', X', e', st'⟩ := initO X hx hZ hown w1 w2 w3 eT (g := mkF m pc Ls (.ref a :: st)) rfl (hsz.trans hml.symm) rfl hd hr1 (W := wd) (by show 2 * 0 + _ ≤ _; omega) hr2
  exact W.of st' (w T' ⟨_, X', e', N, hs0, hcl, hsl, hx, hZ, rfl, hml, hown, hnm, hret, hlk⟩)
theorem w_getfield (X : Sn Z n0 bs mx own nm ret p l e R s m args below meth c T h cells slots) {R0 O n d : String} {index : Nat} {a : Addr} {v : Value} (F : Fld Z h a O n d v) (hd : decode bs pc = .ok (.getfield index, 3)) (w1 : (Cond.fieldLink own index R0 n d).before a0 Z = true) (via : Via Z R0 O n d) (hp : pc + 3 = pc')
    (w : ∀ T', Sn Z n0 bs mx own nm ret p l e R s m args below meth c T' h cells slots → W p e below s R n0 Q (T'.setTop (mkF m pc' Ls (v :: st)))) : W p e below s R n0 Q (T.setTop (mkF m pc Ls (.ref a :: st))) := by
  obtain ⟨locs, X, eT, N, hs0, hcl, hsl, hx, hZ, rfl, hml, hown, hnm, hret, hlk⟩ := X
  subst hp
  obtain ⟨T', X', e', st'⟩ := getF X hx hZ hown (host := "") (Or.inl w1) via eT F (g := mkF m pc Ls (.ref a :: st)) rfl rfl hd
  exact W.of st' (w T' ⟨_, X', e', N, hs0, hcl, hsl, hx, hZ, rfl, hml, hown, hnm, hret, hlk⟩)
theorem w_putfield (X : Sn Z n0 bs mx own nm ret p l e R s m args below meth c T h cells slots) {R0 O n d K : String} {index kk : Nat} {ty : FieldType} {a : Addr} {v v' old : Value} (F : Fld Z h a O n d old) (E : Exa Z h a K) (hd : decode bs pc = .ok (.putfield index, 3)) (w1 : (Cond.fieldLink own index R0 n d).before a0 Z = true) (via : Via Z R0 O n d)
    (L : (Cond.lays K O n d).before a0 Z = true ∨ ((Cond.laysFinal K O n d).before a0 Z = true ∧ own = O ∧ nm = "<init>")) (wi : (Cond.instantiable K kk).before a0 Z = true) (hty : parseFieldDescriptor d = some ty) (hn : narrow ty v = v') (hf : fits ty v' = true) (hp : pc + 3 = pc') (ha : n0 ≤ a)
    (w : ∀ T' h', Sn Z n0 bs mx own nm ret p l e R s m args below meth c T' h' cells slots → Wr h h' a (Jvm.RoadKit.slotOf Z O n d) v' → W p e below s R n0 Q (T'.setTop (mkF m pc' Ls (st)))) : W p e below s R n0 Q (T.setTop (mkF m pc Ls (v :: .ref a :: st))) := by
  obtain ⟨locs, X, eT, N, hs0, hcl, hsl, hx, hZ, rfl, hml, hown, hnm, hret, hlk⟩ := X
  subst hp
  obtain ⟨T', h', X', e', W', st'⟩ := putFN X hx hZ hown w1 via eT F E (L.imp id fun q => ⟨q.1, q.2.1, hnm.trans q.2.2⟩) wi hty hn hf (g := mkF m pc Ls (v :: .ref a :: st)) rfl rfl hd
  exact W.of st' (w T' h' ⟨_, X', e', Fr.snoc X' N ha, by rw [W'.size]; exact hs0, hcl, hsl, hx, hZ, rfl, hml, hown, hnm, hret, hlk⟩ W')
theorem w_new (X : Sn Z n0 bs mx own nm ret p l e R s m args below meth c T h cells slots) {K : String} {index kk : Nat} (hd : decode bs pc = .ok (.new index, 3)) (w1 : (Cond.classLink own index K).before a0 Z = true) (wi : (Cond.instantiable K kk).before a0 Z = true) (wz : (Cond.initialized K).before a0 Z = true) (hr : cells + 1 ≤ R.cells ∧ slots + kk ≤ R.slots ∧ pc + 3 = pc')
    (w : ∀ T' h' b, Sn Z n0 bs mx own nm ret p l e R s m args below meth c T' h' (cells + 1) (slots + kk) → Ext h h' → b = h.size → n0 ≤ b → Exa Z h' b K → (∀ {O nm d : String} {ty : FieldType}, Laid Z a0 K O nm d → parseFieldDescriptor d = some ty → Fld Z h' b O nm d (defaultValue ty)) → W p e below s R n0 Q (T'.setTop (mkF m pc' Ls (.ref b :: st)))) : W p e below s R n0 Q (T.setTop (mkF m pc Ls (st))) := by
  obtain ⟨locs, X, eT, N, hs0, hcl, hsl, hx, hZ, rfl, hml, hown, hnm, hret, hlk⟩ := X
  obtain ⟨hr1, hr2, hp⟩ := hr
  subst hp
  obtain ⟨T', h', X', e', E', A', D', -, st'⟩ := newO X hx hZ hown w1 wi wz eT (g := mkF m pc Ls st) rfl hd hr1 hr2
  exact W.of st' (w T' h' _ ⟨_, X', e', N, Nat.le_trans hs0 E'.1, hr1, hr2, hx, hZ, rfl, hml, hown, hnm, hret, hlk⟩ E' rfl hs0 A' D')
end
end Jvm.OwnW
namespace Jvm.Pilot.@@N@@
open Jvm Jvm.ClassFile Sem Op Lib Jvm.Free Jvm.Stand Jvm.LawKit Jvm.RoadKit Bundle Jvm.OwnW Jvm.Pilot.@@N@@.Jvm.D

theorem own_i {i : Nat} (h : i < 2 ^ 31) : (Int32.ofNat i).toInt = i := Int32.toInt_ofNat_small h
theorem own_succ (i : Nat) : Int32.ofNat i + 1 = Int32.ofNat (i + 1) := (Int32.ofNat_add i 1).symm
def own_len (x : Int64) : Nat := if -128 ≤ x.toInt ∧ x.toInt ≤ 127 then 1 else if -32768 ≤ x.toInt ∧ x.toInt ≤ 32767 then 2 else if -2147483648 ≤ x.toInt ∧ x.toInt ≤ 2147483647 then 4 else 8
def own_b (N : Nat) (x : Int64) (j : Nat) : Int32 := (lsr x (8 * (Int32.ofNat N - 1 - Int32.ofNat j))).toInt32.toInt8.toInt32.toInt8.toInt32
def own_f (N : Nat) (x : Int64) (k : Nat) : Nat → Value := fun j => .int (if j < k then own_b N x j else 0)
theorem own_up (n : Nat) (x : Int64) (ii j : Nat) : up (own_f n x ii) ii (.int (own_b n x ii)) j = own_f n x (ii + 1) j := by
  unfold up own_f
  by_cases q : j = ii
  · subst q; rw [if_pos rfl, if_pos (Nat.lt_succ_self _)]
  · rw [if_neg q]
    by_cases r : j < ii
    · rw [if_pos r, if_pos (by omega)]
    · rw [if_neg r, if_neg (by omega)]
def own_acc (bb : Nat → Int32) : Nat → Int64
  | 0 => (bb 0).toInt64
  | j + 1 => lsl (own_acc bb j) 8 ||| (bb (j + 1) &&& 255).toInt64
theorem own_r8 (x : Int64) : x = x.toInt32.toInt8.toInt32.toInt64 ↔ -128 ≤ x.toInt ∧ x.toInt ≤ 127 := by
  have e : x.toInt32.toInt8.toInt32.toInt64.toInt = x.toInt.bmod (2 ^ 8) := by
    rw [Int32.toInt_toInt64, Int8.toInt_toInt32, Int32.toInt_toInt8, Int64.toInt_toInt32, Int.bmod_bmod_of_dvd (by decide)]
  rw [← Int64.toInt_inj, e, Int.bmod_def]
  omega
theorem own_r16 (x : Int64) : x = x.toInt32.toInt16.toInt32.toInt64 ↔ -32768 ≤ x.toInt ∧ x.toInt ≤ 32767 := by
  have e : x.toInt32.toInt16.toInt32.toInt64.toInt = x.toInt.bmod (2 ^ 16) := by
    rw [Int32.toInt_toInt64, Int16.toInt_toInt32, Int32.toInt_toInt16, Int64.toInt_toInt32, Int.bmod_bmod_of_dvd (by decide)]
  rw [← Int64.toInt_inj, e, Int.bmod_def]
  omega
theorem own_r32 (x : Int64) : x = x.toInt32.toInt64 ↔ -2147483648 ≤ x.toInt ∧ x.toInt ≤ 2147483647 := by
  have e : x.toInt32.toInt64.toInt = x.toInt.bmod (2 ^ 32) := by
    rw [Int32.toInt_toInt64, Int64.toInt_toInt32]
  rw [← Int64.toInt_inj, e, Int.bmod_def]
  omega
theorem own_l1 {x : Int64} (h : x = x.toInt32.toInt8.toInt32.toInt64) : own_len x = 1 := if_pos ((own_r8 x).mp h)
theorem own_l2 {x : Int64} (h : x ≠ x.toInt32.toInt8.toInt32.toInt64) (h2 : x = x.toInt32.toInt16.toInt32.toInt64) : own_len x = 2 := by
  unfold own_len; rw [if_neg fun q => h ((own_r8 x).mpr q), if_pos ((own_r16 x).mp h2)]
theorem own_l4 {x : Int64} (h : x ≠ x.toInt32.toInt8.toInt32.toInt64) (h2 : x ≠ x.toInt32.toInt16.toInt32.toInt64) (h3 : x = x.toInt32.toInt64) : own_len x = 4 := by
  unfold own_len; rw [if_neg fun q => h ((own_r8 x).mpr q), if_neg fun q => h2 ((own_r16 x).mpr q), if_pos ((own_r32 x).mp h3)]
theorem own_l8 {x : Int64} (h : x ≠ x.toInt32.toInt8.toInt32.toInt64) (h2 : x ≠ x.toInt32.toInt16.toInt32.toInt64) (h3 : x ≠ x.toInt32.toInt64) : own_len x = 8 := by
  unfold own_len; rw [if_neg fun q => h ((own_r8 x).mpr q), if_neg fun q => h2 ((own_r16 x).mpr q), if_neg fun q => h3 ((own_r32 x).mpr q)]
theorem own_lb (x : Int64) : 1 ≤ own_len x ∧ own_len x ≤ 8 := by unfold own_len; split <;> (try split) <;> (try split) <;> omega
theorem own_sh : ∀ N : Nat, N < 9 → ∀ j : Nat, j < N → 8 * (Int32.ofNat N - 1 - Int32.ofNat j) = Int32.ofNat (8 * (N - 1 - j)) := by decide +kernel
theorem own_lsr (x : Int64) {k : Nat} (hk : k < 64) : (lsr x (Int32.ofNat k)).toInt = x.toInt / 2 ^ k := by
  show (lsr x (Int32.ofNat k)).toBitVec.toInt = _
  rw [lsrB x hk, BitVec.toInt_sshiftRight, Int.shiftRight_eq_div_pow]; rfl
theorem own_unI (y : Int64) : (un y : Int) % 256 = y.toInt % 256 := by
  have e : y.toInt = y.toBitVec.toInt := rfl
  rw [e, BitVec.toInt_eq_toNat_cond]
  unfold un
  split <;> omega
theorem catI {a c : Int64} (ha : -2 ^ 55 ≤ a.toInt ∧ a.toInt < 2 ^ 55) (hc : un c < 256) : (lsl a 8 ||| c).toInt = a.toInt * 256 + un c := by
  have e : lsl a 8 ||| c = lsl a 8 + c := by
    apply Int64.toBitVec_inj.mp
    rw [Int64.toBitVec_or, Int64.toBitVec_add, BitVec.add_eq_or_of_and_eq_zero]
    apply BitVec.eq_of_getLsbD_eq
    intro i hi
    rw [BitVec.getLsbD_and, show (8 : Int32) = Int32.ofNat 8 from rfl, lslB a (by decide), BitVec.getLsbD_shiftLeft]
    by_cases q : i < 8
    · simp [q]
    · have : c.toBitVec.getLsbD i = false := Nat.testBit_lt_two_pow (Nat.lt_of_lt_of_le hc (Nat.pow_le_pow_right (n := 2) (by decide) (show 8 ≤ i by omega)))
      simp [this]
  have e2 : (lsl a 8).toInt = a.toInt * 2 ^ 8 := Jvm.Kit.i64_shl a _ (k := 8) (by decide) (by omega) (by omega)
  have e3 := toInt_of_un (x := c) (by omega)
  rw [e, Jvm.Kit.i64_add (by omega) (by omega), e2, e3]; rfl
theorem own_accI {N : Nat} (x : Int64) (hN : N < 9) (hr : -(2 ^ (8 * N - 1)) ≤ x.toInt ∧ x.toInt < 2 ^ (8 * N - 1)) : ∀ j, j < N → (own_acc (own_b N x) j).toInt = x.toInt / 2 ^ (8 * (N - 1 - j))
  | 0, hj => by
    show ((own_b N x 0).toInt64).toInt = _
    unfold own_b
    rw [own_sh N hN 0 hj, Int32.toInt_toInt64, Int8.toInt_toInt32, Int32.toInt_toInt8, Int8.toInt_toInt32, Int32.toInt_toInt8, Int64.toInt_toInt32, own_lsr x (by omega), Int.bmod_bmod_of_dvd (by decide), Int.bmod_bmod_of_dvd (by decide)]
    have e : (2 : Int) ^ (8 * N - 1) = 2 ^ (8 * (N - 1 - 0)) * 128 := by
      rw [show 8 * N - 1 = 8 * (N - 1 - 0) + 7 by omega, Int.pow_add]; rfl
    rw [e] at hr
    have hp : (0 : Int) < 2 ^ (8 * (N - 1 - 0)) := Int.pow_pos (by decide)
    generalize (2 : Int) ^ (8 * (N - 1 - 0)) = P at *
    have h1 : -128 ≤ x.toInt / P := Int.le_ediv_of_mul_le hp (by have := hr.1; rw [Int.mul_comm] at this; omega)
    have h2 : x.toInt / P < 128 := Int.ediv_lt_of_lt_mul hp (by have := hr.2; rw [Int.mul_comm] at this; omega)
    rw [Int.bmod_def]; omega
  | j + 1, hj => by
    have ih := own_accI x hN hr j (by omega)
    obtain ⟨t, ht⟩ : ∃ t, N - 1 - (j + 1) = t := ⟨_, rfl⟩
    have ht2 : N - 1 - j = t + 1 := by omega
    rw [ht2] at ih
    have hY := own_lsr x (k := 8 * t) (by omega)
    have hc : un ((own_b N x (j + 1) &&& 255).toInt64) = un (lsr x (Int32.ofNat (8 * t))) % 256 := by
      unfold own_b
      rw [byteU, own_sh N hN (j + 1) hj, ht]
    have hu := own_unI (lsr x (Int32.ofNat (8 * t)))
    have b1 := Int64.toInt_lt (lsr x (Int32.ofNat (8 * t)))
    have b2 := Int64.le_toInt (lsr x (Int32.ofNat (8 * t)))
    have hd : x.toInt / 2 ^ (8 * (t + 1)) = x.toInt / 2 ^ (8 * t) / 256 := by
      rw [show 8 * (t + 1) = 8 * t + 8 by omega, Int.pow_add, Int.ediv_ediv_of_nonneg (Int.le_of_lt (Int.pow_pos (by decide)))]; rfl
    rw [hd, ← hY] at ih
    show (lsl (own_acc (own_b N x) j) 8 ||| (own_b N x (j + 1) &&& 255).toInt64).toInt = _
    rw [catI (by omega) (by omega), ht, ← hY, ih, hc]
    omega
theorem own_rng (x : Int64) : -(2 ^ (8 * own_len x - 1)) ≤ x.toInt ∧ x.toInt < 2 ^ (8 * own_len x - 1) := by
  have b1 := x.toInt_lt
  have b2 := x.le_toInt
  unfold own_len
  split
  · show -(128 : Int) ≤ _ ∧ _ < (128 : Int); omega
  · split
    · show -(32768 : Int) ≤ _ ∧ _ < (32768 : Int); omega
    · split
      · show -(2147483648 : Int) ≤ _ ∧ _ < (2147483648 : Int); omega
      · show -(9223372036854775808 : Int) ≤ _ ∧ _ < (9223372036854775808 : Int); omega
theorem own_main (x : Int64) : own_acc (own_b (own_len x) x) (own_len x - 1) = x := by
  have h := own_lb x
  apply Int64.toInt_inj.mp
  rw [own_accI x (by omega) (own_rng x) _ (by omega), Nat.sub_self, Nat.mul_zero]
  exact Int.ediv_one _

theorem d1_0 : decode method_2_code 0 = .ok (.iload_n 2, 1) := by decide +kernel
theorem d1_1 : decode method_2_code 1 = .ok (.bipush 7, 2) := by decide +kernel
theorem d1_3 : decode method_2_code 3 = .ok (.iand, 1) := by decide +kernel
theorem d1_4 : decode method_2_code 4 = .ok (.istore_n 3, 1) := by decide +kernel
theorem d1_5 : decode method_2_code 5 = .ok (.iload_n 3, 1) := by decide +kernel
theorem d1_6 : decode method_2_code 6 = .ok (.ifCond .ne 5, 3) := by decide +kernel
theorem d1_9 : decode method_2_code 9 = .ok (.lload_n 0, 1) := by decide +kernel
theorem d1_10 : decode method_2_code 10 = .ok (.lreturn, 1) := by decide +kernel
theorem d1_11 : decode method_2_code 11 = .ok (.iload_n 3, 1) := by decide +kernel
theorem d1_12 : decode method_2_code 12 = .ok (.iconst 1, 1) := by decide +kernel
theorem d1_13 : decode method_2_code 13 = .ok (.if_icmp .ne 8, 3) := by decide +kernel
theorem d1_16 : decode method_2_code 16 = .ok (.lload_n 0, 1) := by decide +kernel
theorem d1_17 : decode method_2_code 17 = .ok (.l2i, 1) := by decide +kernel
theorem d1_18 : decode method_2_code 18 = .ok (.i2b, 1) := by decide +kernel
theorem d1_19 : decode method_2_code 19 = .ok (.i2l, 1) := by decide +kernel
theorem d1_20 : decode method_2_code 20 = .ok (.lreturn, 1) := by decide +kernel
theorem d1_21 : decode method_2_code 21 = .ok (.iload_n 3, 1) := by decide +kernel
theorem d1_22 : decode method_2_code 22 = .ok (.iconst 2, 1) := by decide +kernel
theorem d1_23 : decode method_2_code 23 = .ok (.if_icmp .ne 8, 3) := by decide +kernel
theorem d1_26 : decode method_2_code 26 = .ok (.lload_n 0, 1) := by decide +kernel
theorem d1_27 : decode method_2_code 27 = .ok (.l2i, 1) := by decide +kernel
theorem d1_28 : decode method_2_code 28 = .ok (.i2s, 1) := by decide +kernel
theorem d1_29 : decode method_2_code 29 = .ok (.i2l, 1) := by decide +kernel
theorem d1_30 : decode method_2_code 30 = .ok (.lreturn, 1) := by decide +kernel
theorem d1_31 : decode method_2_code 31 = .ok (.iload_n 3, 1) := by decide +kernel
theorem d1_32 : decode method_2_code 32 = .ok (.iconst 3, 1) := by decide +kernel
theorem d1_33 : decode method_2_code 33 = .ok (.if_icmp .ne 7, 3) := by decide +kernel
theorem d1_36 : decode method_2_code 36 = .ok (.lload_n 0, 1) := by decide +kernel
theorem d1_37 : decode method_2_code 37 = .ok (.l2i, 1) := by decide +kernel
theorem d1_38 : decode method_2_code 38 = .ok (.i2l, 1) := by decide +kernel
theorem d1_39 : decode method_2_code 39 = .ok (.lreturn, 1) := by decide +kernel
theorem d1_40 : decode method_2_code 40 = .ok (.iload_n 2, 1) := by decide +kernel
theorem d1_41 : decode method_2_code 41 = .ok (.iconst 3, 1) := by decide +kernel
theorem d1_42 : decode method_2_code 42 = .ok (.iushr, 1) := by decide +kernel
theorem d1_43 : decode method_2_code 43 = .ok (.iconst 3, 1) := by decide +kernel
theorem d1_44 : decode method_2_code 44 = .ok (.iand, 1) := by decide +kernel
theorem d1_45 : decode method_2_code 45 = .ok (.istore 4, 2) := by decide +kernel
theorem d1_47 : decode method_2_code 47 = .ok (.iload 4, 2) := by decide +kernel
theorem d1_49 : decode method_2_code 49 = .ok (.ifCond .ne 21, 3) := by decide +kernel
theorem d1_52 : decode method_2_code 52 = .ok (.ldc2_w 7, 3) := by decide +kernel
theorem d1_55 : decode method_2_code 55 = .ok (.lload_n 0, 1) := by decide +kernel
theorem d1_56 : decode method_2_code 56 = .ok (.ldc2_w 9, 3) := by decide +kernel
theorem d1_59 : decode method_2_code 59 = .ok (.land, 1) := by decide +kernel
theorem d1_60 : decode method_2_code 60 = .ok (.ldc2_w 11, 3) := by decide +kernel
theorem d1_63 : decode method_2_code 63 = .ok (.lsub, 1) := by decide +kernel
theorem d1_64 : decode method_2_code 64 = .ok (.ladd, 1) := by decide +kernel
theorem d1_65 : decode method_2_code 65 = .ok (.lstore 5, 2) := by decide +kernel
theorem d1_67 : decode method_2_code 67 = .ok (.goto 62, 3) := by decide +kernel
theorem d1_70 : decode method_2_code 70 = .ok (.iload 4, 2) := by decide +kernel
theorem d1_72 : decode method_2_code 72 = .ok (.iconst 1, 1) := by decide +kernel
theorem d1_73 : decode method_2_code 73 = .ok (.if_icmp .ne 21, 3) := by decide +kernel
theorem d1_76 : decode method_2_code 76 = .ok (.ldc2_w 13, 3) := by decide +kernel
theorem d1_79 : decode method_2_code 79 = .ok (.lload_n 0, 1) := by decide +kernel
theorem d1_80 : decode method_2_code 80 = .ok (.ldc2_w 9, 3) := by decide +kernel
theorem d1_83 : decode method_2_code 83 = .ok (.land, 1) := by decide +kernel
theorem d1_84 : decode method_2_code 84 = .ok (.ldc2_w 11, 3) := by decide +kernel
theorem d1_87 : decode method_2_code 87 = .ok (.lsub, 1) := by decide +kernel
theorem d1_88 : decode method_2_code 88 = .ok (.ladd, 1) := by decide +kernel
theorem d1_89 : decode method_2_code 89 = .ok (.lstore 5, 2) := by decide +kernel
theorem d1_91 : decode method_2_code 91 = .ok (.goto 38, 3) := by decide +kernel
theorem d1_94 : decode method_2_code 94 = .ok (.iload 4, 2) := by decide +kernel
theorem d1_96 : decode method_2_code 96 = .ok (.iconst 2, 1) := by decide +kernel
theorem d1_97 : decode method_2_code 97 = .ok (.if_icmp .ne 21, 3) := by decide +kernel
theorem d1_100 : decode method_2_code 100 = .ok (.ldc2_w 15, 3) := by decide +kernel
theorem d1_103 : decode method_2_code 103 = .ok (.lload_n 0, 1) := by decide +kernel
theorem d1_104 : decode method_2_code 104 = .ok (.ldc2_w 9, 3) := by decide +kernel
theorem d1_107 : decode method_2_code 107 = .ok (.land, 1) := by decide +kernel
theorem d1_108 : decode method_2_code 108 = .ok (.ldc2_w 11, 3) := by decide +kernel
theorem d1_111 : decode method_2_code 111 = .ok (.lsub, 1) := by decide +kernel
theorem d1_112 : decode method_2_code 112 = .ok (.ladd, 1) := by decide +kernel
theorem d1_113 : decode method_2_code 113 = .ok (.lstore 5, 2) := by decide +kernel
theorem d1_115 : decode method_2_code 115 = .ok (.goto 14, 3) := by decide +kernel
theorem d1_118 : decode method_2_code 118 = .ok (.ldc2_w 19, 3) := by decide +kernel
theorem d1_121 : decode method_2_code 121 = .ok (.lload_n 0, 1) := by decide +kernel
theorem d1_122 : decode method_2_code 122 = .ok (.ldc2_w 9, 3) := by decide +kernel
theorem d1_125 : decode method_2_code 125 = .ok (.land, 1) := by decide +kernel
theorem d1_126 : decode method_2_code 126 = .ok (.lsub, 1) := by decide +kernel
theorem d1_127 : decode method_2_code 127 = .ok (.lstore 5, 2) := by decide +kernel
theorem d1_129 : decode method_2_code 129 = .ok (.iload_n 2, 1) := by decide +kernel
theorem d1_130 : decode method_2_code 130 = .ok (.iconst 5, 1) := by decide +kernel
theorem d1_131 : decode method_2_code 131 = .ok (.iushr, 1) := by decide +kernel
theorem d1_132 : decode method_2_code 132 = .ok (.iconst 1, 1) := by decide +kernel
theorem d1_133 : decode method_2_code 133 = .ok (.iand, 1) := by decide +kernel
theorem d1_134 : decode method_2_code 134 = .ok (.ifCond .eq 10, 3) := by decide +kernel
theorem d1_137 : decode method_2_code 137 = .ok (.lload 5, 2) := by decide +kernel
theorem d1_139 : decode method_2_code 139 = .ok (.lneg, 1) := by decide +kernel
theorem d1_140 : decode method_2_code 140 = .ok (.lconst 1, 1) := by decide +kernel
theorem d1_141 : decode method_2_code 141 = .ok (.lsub, 1) := by decide +kernel
theorem d1_142 : decode method_2_code 142 = .ok (.lstore 5, 2) := by decide +kernel
theorem d1_144 : decode method_2_code 144 = .ok (.lload 5, 2) := by decide +kernel
theorem d1_146 : decode method_2_code 146 = .ok (.lreturn, 1) := by decide +kernel
theorem pn_1 : plainName "com/example/gnomic_keys/gnomickeys/codec/ValueOfIntegerPinLaw" = true := by first | (simp [plainName, overriddenIn]; done) | decide +kernel
theorem rm1_ef (m : MethodId) (v0 : Int64) (k0 : Int32) : entryFrame m #[(.long v0), (.int k0)] 7 = mkF m 0 #[.val (.long v0), .second, .val (.int k0), .unset, .unset, .unset, .unset] [] := by first | (simp [entryFrame, mkF, argsToLocals, Value.category]; done) | rfl
abbrev rm1_Q (Z : State) (v0 : Int64) (k0 : Int32) (h0 : Heap) (n0 : Nat) : Option Value → Heap → Prop := fun v h => ∃ z : Int64, v = some (.long z) ∧ h0 = h
set_option maxRecDepth 65536 in
set_option maxHeartbeats 40000000 in
theorem rm1 (l : Launch) (Z : State) (a0 : Array Value) (hw : ∀ d ∈ tables_1, d.before a0 Z = true) (ws : List Jvm.Cond) (v0 : Int64) (k0 : Int32) (h : Heap) (n0 : Nat) (hn0 : n0 ≤ h.size) :
    Ct l Z (⟨"com/example/gnomic_keys/gnomickeys/codec/ValueOfIntegerPinLaw", "pick", "(JI)J"⟩ : MethodName) method_2_code 7 (some .long) ws ({ frames := 0, cells := 0, slots := 0, locals := 0 } : Room) #[(.long v0), (.int k0)] h n0 (rm1_Q Z v0 k0 h n0) := by
  refine Ct.of (plainFor_of_name pn_1) hn0 (fun m => rm1_ef m v0 k0) ?_
  intro p e s m below meth c T0 X0
  replace X0 : Sn Z n0 method_2_code 7 "com/example/gnomic_keys/gnomickeys/codec/ValueOfIntegerPinLaw" "pick" (some .long) p l e ({ frames := 0, cells := 0, slots := 0, locals := 0 } : Room) s m #[(.long v0), (.int k0)] below meth c T0 h 0 0 := X0
  have J129 : ∀ (m3 m4 : Int32) (x5 : Int64), W p e below s ({ frames := 0, cells := 0, slots := 0, locals := 0 } : Room) n0 (rm1_Q Z v0 k0 h n0) (T0.setTop (mkF m 129 #[.val (.long v0), .second, .val (.int k0), .val (.int m3), .val (.int m4), .val (.long x5), .second] [])) := by
    intro m3 m4 x5
    refine w_iloadN (pc' := 130) X0 d1_129 rfl rfl ?_
    refine w_iconst (pc' := 131) (z := (5 : Int32)) X0 d1_130 rfl rfl ?_
    refine w_iushr (pc' := 132) X0 d1_131 rfl ?_
    refine w_iconst (pc' := 133) (z := (1 : Int32)) X0 d1_132 rfl rfl ?_
    refine w_iand (pc' := 134) X0 d1_133 rfl ?_
    refine w_if_eq (pc1 := 144) (pc2 := 137) X0 d1_134 (by decide) (fun (hc134 : ((ius k0 (5 : Int32)) &&& (1 : Int32)) = (0 : Int32)) => ?_) (fun (hc134 : ((ius k0 (5 : Int32)) &&& (1 : Int32)) ≠ (0 : Int32)) => ?_)
    · refine w_lload (pc' := 146) X0 d1_144 rfl rfl ?_
      exact w_lreturn X0 d1_146 rfl (⟨_, rfl, rfl⟩)
    · refine w_lload (pc' := 139) X0 d1_137 rfl rfl ?_
      refine w_lneg (pc' := 140) X0 d1_139 rfl ?_
      refine w_lconst (pc' := 141) (z := (1 : Int64)) X0 d1_140 rfl rfl ?_
      refine w_lsub (pc' := 142) X0 d1_141 rfl ?_
      refine w_lstore (pc' := 144) (L' := #[.val (.long v0), .second, .val (.int k0), .val (.int m3), .val (.int m4), .val (.long ((-x5) - (1 : Int64))), .second]) X0 d1_142 rfl rfl ?_
      refine w_lload (pc' := 146) X0 d1_144 rfl rfl ?_
      exact w_lreturn X0 d1_146 rfl (⟨_, rfl, rfl⟩)
  refine w_iloadN (pc' := 1) X0 d1_0 rfl rfl ?_
  refine w_bipush (pc' := 3) (z := (7 : Int32)) X0 d1_1 rfl rfl ?_
  refine w_iand (pc' := 4) X0 d1_3 rfl ?_
  obtain ⟨md, hmd⟩ : ∃ z : Int32, z = (k0 &&& (7 : Int32)) := ⟨_, rfl⟩
  refine w_topI hmd.symm ?_
  refine w_istoreN (pc' := 5) (L' := #[.val (.long v0), .second, .val (.int k0), .val (.int md), .unset, .unset, .unset]) X0 d1_4 rfl rfl ?_
  refine w_iloadN (pc' := 6) X0 d1_5 rfl rfl ?_
  refine w_if_ne (pc1 := 11) (pc2 := 9) X0 d1_6 (by decide) (fun (hc6 : md ≠ (0 : Int32)) => ?_) (fun (hc6 : md = (0 : Int32)) => ?_)
  · refine w_iloadN (pc' := 12) X0 d1_11 rfl rfl ?_
    refine w_iconst (pc' := 13) (z := (1 : Int32)) X0 d1_12 rfl rfl ?_
    refine w_icmp_ne (pc1 := 21) (pc2 := 16) X0 d1_13 (by decide) (fun (hc13 : md ≠ (1 : Int32)) => ?_) (fun (hc13 : md = (1 : Int32)) => ?_)
    · refine w_iloadN (pc' := 22) X0 d1_21 rfl rfl ?_
      refine w_iconst (pc' := 23) (z := (2 : Int32)) X0 d1_22 rfl rfl ?_
      refine w_icmp_ne (pc1 := 31) (pc2 := 26) X0 d1_23 (by decide) (fun (hc23 : md ≠ (2 : Int32)) => ?_) (fun (hc23 : md = (2 : Int32)) => ?_)
      · refine w_iloadN (pc' := 32) X0 d1_31 rfl rfl ?_
        refine w_iconst (pc' := 33) (z := (3 : Int32)) X0 d1_32 rfl rfl ?_
        refine w_icmp_ne (pc1 := 40) (pc2 := 36) X0 d1_33 (by decide) (fun (hc33 : md ≠ (3 : Int32)) => ?_) (fun (hc33 : md = (3 : Int32)) => ?_)
        · refine w_iloadN (pc' := 41) X0 d1_40 rfl rfl ?_
          refine w_iconst (pc' := 42) (z := (3 : Int32)) X0 d1_41 rfl rfl ?_
          refine w_iushr (pc' := 43) X0 d1_42 rfl ?_
          refine w_iconst (pc' := 44) (z := (3 : Int32)) X0 d1_43 rfl rfl ?_
          refine w_iand (pc' := 45) X0 d1_44 rfl ?_
          obtain ⟨mb, hmb⟩ : ∃ z : Int32, z = ((ius k0 (3 : Int32)) &&& (3 : Int32)) := ⟨_, rfl⟩
          refine w_topI hmb.symm ?_
          refine w_istore (pc' := 47) (L' := #[.val (.long v0), .second, .val (.int k0), .val (.int md), .val (.int mb), .unset, .unset]) X0 d1_45 rfl rfl ?_
          refine w_iload (pc' := 49) X0 d1_47 rfl rfl ?_
          refine w_if_ne (pc1 := 70) (pc2 := 52) X0 d1_49 (by decide) (fun (hc49 : mb ≠ (0 : Int32)) => ?_) (fun (hc49 : mb = (0 : Int32)) => ?_)
          · refine w_iload (pc' := 72) X0 d1_70 rfl rfl ?_
            refine w_iconst (pc' := 73) (z := (1 : Int32)) X0 d1_72 rfl rfl ?_
            refine w_icmp_ne (pc1 := 94) (pc2 := 76) X0 d1_73 (by decide) (fun (hc73 : mb ≠ (1 : Int32)) => ?_) (fun (hc73 : mb = (1 : Int32)) => ?_)
            · refine w_iload (pc' := 96) X0 d1_94 rfl rfl ?_
              refine w_iconst (pc' := 97) (z := (2 : Int32)) X0 d1_96 rfl rfl ?_
              refine w_icmp_ne (pc1 := 118) (pc2 := 100) X0 d1_97 (by decide) (fun (hc97 : mb ≠ (2 : Int32)) => ?_) (fun (hc97 : mb = (2 : Int32)) => ?_)
              · refine w_ldc2 (pc' := 121) (z := (9223372036854775807 : Int64)) X0 d1_118 (hw _ (List.mem_of_getElem? (i := 50) rfl)) rfl ?_
                refine w_lloadN (pc' := 122) X0 d1_121 rfl rfl ?_
                refine w_ldc2 (pc' := 125) (z := (3 : Int64)) X0 d1_122 (hw _ (List.mem_of_getElem? (i := 42) rfl)) rfl ?_
                refine w_land (pc' := 126) X0 d1_125 rfl ?_
                refine w_lsub (pc' := 127) X0 d1_126 rfl ?_
                refine w_lstore (pc' := 129) (L' := #[.val (.long v0), .second, .val (.int k0), .val (.int md), .val (.int mb), .val (.long ((9223372036854775807 : Int64) - (v0 &&& (3 : Int64)))), .second]) X0 d1_127 rfl rfl ?_
                exact J129 _ _ _
              · refine w_ldc2 (pc' := 103) (z := (2147483648 : Int64)) X0 d1_100 (hw _ (List.mem_of_getElem? (i := 46) rfl)) rfl ?_
                refine w_lloadN (pc' := 104) X0 d1_103 rfl rfl ?_
                refine w_ldc2 (pc' := 107) (z := (3 : Int64)) X0 d1_104 (hw _ (List.mem_of_getElem? (i := 42) rfl)) rfl ?_
                refine w_land (pc' := 108) X0 d1_107 rfl ?_
                refine w_ldc2 (pc' := 111) (z := (2 : Int64)) X0 d1_108 (hw _ (List.mem_of_getElem? (i := 43) rfl)) rfl ?_
                refine w_lsub (pc' := 112) X0 d1_111 rfl ?_
                refine w_ladd (pc' := 113) X0 d1_112 rfl ?_
                refine w_lstore (pc' := 115) (L' := #[.val (.long v0), .second, .val (.int k0), .val (.int md), .val (.int mb), .val (.long ((2147483648 : Int64) + ((v0 &&& (3 : Int64)) - (2 : Int64)))), .second]) X0 d1_113 rfl rfl ?_
                refine w_goto (pc' := 129) X0 d1_115 (by decide) ?_
                exact J129 _ _ _
            · refine w_ldc2 (pc' := 79) (z := (32768 : Int64)) X0 d1_76 (hw _ (List.mem_of_getElem? (i := 48) rfl)) rfl ?_
              refine w_lloadN (pc' := 80) X0 d1_79 rfl rfl ?_
              refine w_ldc2 (pc' := 83) (z := (3 : Int64)) X0 d1_80 (hw _ (List.mem_of_getElem? (i := 42) rfl)) rfl ?_
              refine w_land (pc' := 84) X0 d1_83 rfl ?_
              refine w_ldc2 (pc' := 87) (z := (2 : Int64)) X0 d1_84 (hw _ (List.mem_of_getElem? (i := 43) rfl)) rfl ?_
              refine w_lsub (pc' := 88) X0 d1_87 rfl ?_
              refine w_ladd (pc' := 89) X0 d1_88 rfl ?_
              refine w_lstore (pc' := 91) (L' := #[.val (.long v0), .second, .val (.int k0), .val (.int md), .val (.int mb), .val (.long ((32768 : Int64) + ((v0 &&& (3 : Int64)) - (2 : Int64)))), .second]) X0 d1_89 rfl rfl ?_
              refine w_goto (pc' := 129) X0 d1_91 (by decide) ?_
              exact J129 _ _ _
          · refine w_ldc2 (pc' := 55) (z := (128 : Int64)) X0 d1_52 (hw _ (List.mem_of_getElem? (i := 41) rfl)) rfl ?_
            refine w_lloadN (pc' := 56) X0 d1_55 rfl rfl ?_
            refine w_ldc2 (pc' := 59) (z := (3 : Int64)) X0 d1_56 (hw _ (List.mem_of_getElem? (i := 42) rfl)) rfl ?_
            refine w_land (pc' := 60) X0 d1_59 rfl ?_
            refine w_ldc2 (pc' := 63) (z := (2 : Int64)) X0 d1_60 (hw _ (List.mem_of_getElem? (i := 43) rfl)) rfl ?_
            refine w_lsub (pc' := 64) X0 d1_63 rfl ?_
            refine w_ladd (pc' := 65) X0 d1_64 rfl ?_
            refine w_lstore (pc' := 67) (L' := #[.val (.long v0), .second, .val (.int k0), .val (.int md), .val (.int mb), .val (.long ((128 : Int64) + ((v0 &&& (3 : Int64)) - (2 : Int64)))), .second]) X0 d1_65 rfl rfl ?_
            refine w_goto (pc' := 129) X0 d1_67 (by decide) ?_
            exact J129 _ _ _
        · refine w_lloadN (pc' := 37) X0 d1_36 rfl rfl ?_
          refine w_l2i (pc' := 38) X0 d1_37 rfl ?_
          refine w_i2l (pc' := 39) X0 d1_38 rfl ?_
          exact w_lreturn X0 d1_39 rfl (⟨_, rfl, rfl⟩)
      · refine w_lloadN (pc' := 27) X0 d1_26 rfl rfl ?_
        refine w_l2i (pc' := 28) X0 d1_27 rfl ?_
        refine w_i2s (pc' := 29) X0 d1_28 rfl ?_
        refine w_i2l (pc' := 30) X0 d1_29 rfl ?_
        exact w_lreturn X0 d1_30 rfl (⟨_, rfl, rfl⟩)
    · refine w_lloadN (pc' := 17) X0 d1_16 rfl rfl ?_
      refine w_l2i (pc' := 18) X0 d1_17 rfl ?_
      refine w_i2b (pc' := 19) X0 d1_18 rfl ?_
      refine w_i2l (pc' := 20) X0 d1_19 rfl ?_
      exact w_lreturn X0 d1_20 rfl (⟨_, rfl, rfl⟩)
  · refine w_lloadN (pc' := 10) X0 d1_9 rfl rfl ?_
    exact w_lreturn X0 d1_10 rfl (⟨_, rfl, rfl⟩)
theorem d2_0 : decode method_3_code 0 = .ok (.lload_n 0, 1) := by decide +kernel
theorem d2_1 : decode method_3_code 1 = .ok (.ldc2_w 21, 3) := by decide +kernel
theorem d2_4 : decode method_3_code 4 = .ok (.lcmp, 1) := by decide +kernel
theorem d2_5 : decode method_3_code 5 = .ok (.ifCond .lt 13, 3) := by decide +kernel
theorem d2_8 : decode method_3_code 8 = .ok (.lload_n 0, 1) := by decide +kernel
theorem d2_9 : decode method_3_code 9 = .ok (.ldc2_w 23, 3) := by decide +kernel
theorem d2_12 : decode method_3_code 12 = .ok (.lcmp, 1) := by decide +kernel
theorem d2_13 : decode method_3_code 13 = .ok (.ifCond .gt 5, 3) := by decide +kernel
theorem d2_16 : decode method_3_code 16 = .ok (.iconst 1, 1) := by decide +kernel
theorem d2_17 : decode method_3_code 17 = .ok (.ireturn, 1) := by decide +kernel
theorem d2_18 : decode method_3_code 18 = .ok (.lload_n 0, 1) := by decide +kernel
theorem d2_19 : decode method_3_code 19 = .ok (.ldc2_w 25, 3) := by decide +kernel
theorem d2_22 : decode method_3_code 22 = .ok (.lcmp, 1) := by decide +kernel
theorem d2_23 : decode method_3_code 23 = .ok (.ifCond .lt 13, 3) := by decide +kernel
theorem d2_26 : decode method_3_code 26 = .ok (.lload_n 0, 1) := by decide +kernel
theorem d2_27 : decode method_3_code 27 = .ok (.ldc2_w 27, 3) := by decide +kernel
theorem d2_30 : decode method_3_code 30 = .ok (.lcmp, 1) := by decide +kernel
theorem d2_31 : decode method_3_code 31 = .ok (.ifCond .gt 5, 3) := by decide +kernel
theorem d2_34 : decode method_3_code 34 = .ok (.iconst 2, 1) := by decide +kernel
theorem d2_35 : decode method_3_code 35 = .ok (.ireturn, 1) := by decide +kernel
theorem d2_36 : decode method_3_code 36 = .ok (.lload_n 0, 1) := by decide +kernel
theorem d2_37 : decode method_3_code 37 = .ok (.ldc2_w 29, 3) := by decide +kernel
theorem d2_40 : decode method_3_code 40 = .ok (.lcmp, 1) := by decide +kernel
theorem d2_41 : decode method_3_code 41 = .ok (.ifCond .lt 13, 3) := by decide +kernel
theorem d2_44 : decode method_3_code 44 = .ok (.lload_n 0, 1) := by decide +kernel
theorem d2_45 : decode method_3_code 45 = .ok (.ldc2_w 31, 3) := by decide +kernel
theorem d2_48 : decode method_3_code 48 = .ok (.lcmp, 1) := by decide +kernel
theorem d2_49 : decode method_3_code 49 = .ok (.ifCond .gt 5, 3) := by decide +kernel
theorem d2_52 : decode method_3_code 52 = .ok (.iconst 4, 1) := by decide +kernel
theorem d2_53 : decode method_3_code 53 = .ok (.ireturn, 1) := by decide +kernel
theorem d2_54 : decode method_3_code 54 = .ok (.bipush 8, 2) := by decide +kernel
theorem d2_56 : decode method_3_code 56 = .ok (.ireturn, 1) := by decide +kernel
theorem rm2_ef (m : MethodId) (x1 : Int64) : entryFrame m #[(.long x1)] 2 = mkF m 0 #[.val (.long x1), .second] [] := by first | (simp [entryFrame, mkF, argsToLocals, Value.category]; done) | rfl
abbrev rm2_Q (Z : State) (x1 : Int64) (h0 : Heap) (n0 : Nat) : Option Value → Heap → Prop := fun v h => v = some (.int (Int32.ofNat (own_len x1))) ∧ h0 = h
set_option maxRecDepth 65536 in
set_option maxHeartbeats 40000000 in
theorem rm2 (l : Launch) (Z : State) (a0 : Array Value) (hw : ∀ d ∈ tables_1, d.before a0 Z = true) (ws : List Jvm.Cond) (x1 : Int64) (h : Heap) (n0 : Nat) (hn0 : n0 ≤ h.size) :
    Ct l Z (⟨"com/example/gnomic_keys/gnomickeys/codec/ValueOfIntegerPinLaw", "fewest", "(J)I"⟩ : MethodName) method_3_code 2 (some .int) ws ({ frames := 0, cells := 0, slots := 0, locals := 0 } : Room) #[(.long x1)] h n0 (rm2_Q Z x1 h n0) := by
  refine Ct.of (plainFor_of_name pn_1) hn0 (fun m => rm2_ef m x1) ?_
  intro p e s m below meth c T0 X0
  replace X0 : Sn Z n0 method_3_code 2 "com/example/gnomic_keys/gnomickeys/codec/ValueOfIntegerPinLaw" "fewest" (some .int) p l e ({ frames := 0, cells := 0, slots := 0, locals := 0 } : Room) s m #[(.long x1)] below meth c T0 h 0 0 := X0
  refine w_lloadN (pc' := 1) X0 d2_0 rfl rfl ?_
  refine w_ldc2 (pc' := 4) (z := (-128 : Int64)) X0 d2_1 (hw _ (List.mem_of_getElem? (i := 7) rfl)) rfl ?_
  refine w_lcif_lt (pc' := 5) (pc1 := 18) (pc2 := 8) X0 d2_4 d2_5 (by decide) (fun (hc5 : x1.toInt < (-128 : Int)) => ?_) (fun (hc5 : x1.toInt ≥ (-128 : Int)) => ?_)
  · refine w_lloadN (pc' := 19) X0 d2_18 rfl rfl ?_
    refine w_ldc2 (pc' := 22) (z := (-32768 : Int64)) X0 d2_19 (hw _ (List.mem_of_getElem? (i := 44) rfl)) rfl ?_
    refine w_lcif_lt (pc' := 23) (pc1 := 36) (pc2 := 26) X0 d2_22 d2_23 (by decide) (fun (hc23 : x1.toInt < (-32768 : Int)) => ?_) (fun (hc23 : x1.toInt ≥ (-32768 : Int)) => ?_)
    · refine w_lloadN (pc' := 37) X0 d2_36 rfl rfl ?_
      refine w_ldc2 (pc' := 40) (z := (-2147483648 : Int64)) X0 d2_37 (hw _ (List.mem_of_getElem? (i := 47) rfl)) rfl ?_
      refine w_lcif_lt (pc' := 41) (pc1 := 54) (pc2 := 44) X0 d2_40 d2_41 (by decide) (fun (hc41 : x1.toInt < (-2147483648 : Int)) => ?_) (fun (hc41 : x1.toInt ≥ (-2147483648 : Int)) => ?_)
      · refine w_bipush (pc' := 56) (z := (8 : Int32)) X0 d2_54 rfl rfl ?_
        have e : own_len x1 = 8 := by unfold own_len; rw [if_neg (by omega), if_neg (by omega), if_neg (by omega)]
        exact w_ireturn X0 d2_56 rfl (⟨by rw [e]; rfl, rfl⟩)
      · refine w_lloadN (pc' := 45) X0 d2_44 rfl rfl ?_
        refine w_ldc2 (pc' := 48) (z := (2147483647 : Int64)) X0 d2_45 (hw _ (List.mem_of_getElem? (i := 49) rfl)) rfl ?_
        refine w_lcif_gt (pc' := 49) (pc1 := 54) (pc2 := 52) X0 d2_48 d2_49 (by decide) (fun (hc49 : x1.toInt > (2147483647 : Int)) => ?_) (fun (hc49 : x1.toInt ≤ (2147483647 : Int)) => ?_)
        · refine w_bipush (pc' := 56) (z := (8 : Int32)) X0 d2_54 rfl rfl ?_
          have e : own_len x1 = 8 := by unfold own_len; rw [if_neg (by omega), if_neg (by omega), if_neg (by omega)]
          exact w_ireturn X0 d2_56 rfl (⟨by rw [e]; rfl, rfl⟩)
        · refine w_iconst (pc' := 53) (z := (4 : Int32)) X0 d2_52 rfl rfl ?_
          have e : own_len x1 = 4 := by unfold own_len; rw [if_neg (by omega), if_neg (by omega), if_pos (by omega)]
          exact w_ireturn X0 d2_53 rfl (⟨by rw [e]; rfl, rfl⟩)
    · refine w_lloadN (pc' := 27) X0 d2_26 rfl rfl ?_
      refine w_ldc2 (pc' := 30) (z := (32767 : Int64)) X0 d2_27 (hw _ (List.mem_of_getElem? (i := 45) rfl)) rfl ?_
      refine w_lcif_gt (pc' := 31) (pc1 := 36) (pc2 := 34) X0 d2_30 d2_31 (by decide) (fun (hc31 : x1.toInt > (32767 : Int)) => ?_) (fun (hc31 : x1.toInt ≤ (32767 : Int)) => ?_)
      · refine w_lloadN (pc' := 37) X0 d2_36 rfl rfl ?_
        refine w_ldc2 (pc' := 40) (z := (-2147483648 : Int64)) X0 d2_37 (hw _ (List.mem_of_getElem? (i := 47) rfl)) rfl ?_
        refine w_lcif_lt (pc' := 41) (pc1 := 54) (pc2 := 44) X0 d2_40 d2_41 (by decide) (fun (hc41 : x1.toInt < (-2147483648 : Int)) => ?_) (fun (hc41 : x1.toInt ≥ (-2147483648 : Int)) => ?_)
        · refine w_bipush (pc' := 56) (z := (8 : Int32)) X0 d2_54 rfl rfl ?_
          have e : own_len x1 = 8 := by unfold own_len; rw [if_neg (by omega), if_neg (by omega), if_neg (by omega)]
          exact w_ireturn X0 d2_56 rfl (⟨by rw [e]; rfl, rfl⟩)
        · refine w_lloadN (pc' := 45) X0 d2_44 rfl rfl ?_
          refine w_ldc2 (pc' := 48) (z := (2147483647 : Int64)) X0 d2_45 (hw _ (List.mem_of_getElem? (i := 49) rfl)) rfl ?_
          refine w_lcif_gt (pc' := 49) (pc1 := 54) (pc2 := 52) X0 d2_48 d2_49 (by decide) (fun (hc49 : x1.toInt > (2147483647 : Int)) => ?_) (fun (hc49 : x1.toInt ≤ (2147483647 : Int)) => ?_)
          · refine w_bipush (pc' := 56) (z := (8 : Int32)) X0 d2_54 rfl rfl ?_
            have e : own_len x1 = 8 := by unfold own_len; rw [if_neg (by omega), if_neg (by omega), if_neg (by omega)]
            exact w_ireturn X0 d2_56 rfl (⟨by rw [e]; rfl, rfl⟩)
          · refine w_iconst (pc' := 53) (z := (4 : Int32)) X0 d2_52 rfl rfl ?_
            have e : own_len x1 = 4 := by unfold own_len; rw [if_neg (by omega), if_neg (by omega), if_pos (by omega)]
            exact w_ireturn X0 d2_53 rfl (⟨by rw [e]; rfl, rfl⟩)
      · refine w_iconst (pc' := 35) (z := (2 : Int32)) X0 d2_34 rfl rfl ?_
        have e : own_len x1 = 2 := by unfold own_len; rw [if_neg (by omega), if_pos (by omega)]
        exact w_ireturn X0 d2_35 rfl (⟨by rw [e]; rfl, rfl⟩)
  · refine w_lloadN (pc' := 9) X0 d2_8 rfl rfl ?_
    refine w_ldc2 (pc' := 12) (z := (127 : Int64)) X0 d2_9 (hw _ (List.mem_of_getElem? (i := 8) rfl)) rfl ?_
    refine w_lcif_gt (pc' := 13) (pc1 := 18) (pc2 := 16) X0 d2_12 d2_13 (by decide) (fun (hc13 : x1.toInt > (127 : Int)) => ?_) (fun (hc13 : x1.toInt ≤ (127 : Int)) => ?_)
    · refine w_lloadN (pc' := 19) X0 d2_18 rfl rfl ?_
      refine w_ldc2 (pc' := 22) (z := (-32768 : Int64)) X0 d2_19 (hw _ (List.mem_of_getElem? (i := 44) rfl)) rfl ?_
      refine w_lcif_lt (pc' := 23) (pc1 := 36) (pc2 := 26) X0 d2_22 d2_23 (by decide) (fun (hc23 : x1.toInt < (-32768 : Int)) => ?_) (fun (hc23 : x1.toInt ≥ (-32768 : Int)) => ?_)
      · refine w_lloadN (pc' := 37) X0 d2_36 rfl rfl ?_
        refine w_ldc2 (pc' := 40) (z := (-2147483648 : Int64)) X0 d2_37 (hw _ (List.mem_of_getElem? (i := 47) rfl)) rfl ?_
        refine w_lcif_lt (pc' := 41) (pc1 := 54) (pc2 := 44) X0 d2_40 d2_41 (by decide) (fun (hc41 : x1.toInt < (-2147483648 : Int)) => ?_) (fun (hc41 : x1.toInt ≥ (-2147483648 : Int)) => ?_)
        · refine w_bipush (pc' := 56) (z := (8 : Int32)) X0 d2_54 rfl rfl ?_
          have e : own_len x1 = 8 := by unfold own_len; rw [if_neg (by omega), if_neg (by omega), if_neg (by omega)]
          exact w_ireturn X0 d2_56 rfl (⟨by rw [e]; rfl, rfl⟩)
        · refine w_lloadN (pc' := 45) X0 d2_44 rfl rfl ?_
          refine w_ldc2 (pc' := 48) (z := (2147483647 : Int64)) X0 d2_45 (hw _ (List.mem_of_getElem? (i := 49) rfl)) rfl ?_
          refine w_lcif_gt (pc' := 49) (pc1 := 54) (pc2 := 52) X0 d2_48 d2_49 (by decide) (fun (hc49 : x1.toInt > (2147483647 : Int)) => ?_) (fun (hc49 : x1.toInt ≤ (2147483647 : Int)) => ?_)
          · refine w_bipush (pc' := 56) (z := (8 : Int32)) X0 d2_54 rfl rfl ?_
            have e : own_len x1 = 8 := by unfold own_len; rw [if_neg (by omega), if_neg (by omega), if_neg (by omega)]
            exact w_ireturn X0 d2_56 rfl (⟨by rw [e]; rfl, rfl⟩)
          · refine w_iconst (pc' := 53) (z := (4 : Int32)) X0 d2_52 rfl rfl ?_
            have e : own_len x1 = 4 := by unfold own_len; rw [if_neg (by omega), if_neg (by omega), if_pos (by omega)]
            exact w_ireturn X0 d2_53 rfl (⟨by rw [e]; rfl, rfl⟩)
      · refine w_lloadN (pc' := 27) X0 d2_26 rfl rfl ?_
        refine w_ldc2 (pc' := 30) (z := (32767 : Int64)) X0 d2_27 (hw _ (List.mem_of_getElem? (i := 45) rfl)) rfl ?_
        refine w_lcif_gt (pc' := 31) (pc1 := 36) (pc2 := 34) X0 d2_30 d2_31 (by decide) (fun (hc31 : x1.toInt > (32767 : Int)) => ?_) (fun (hc31 : x1.toInt ≤ (32767 : Int)) => ?_)
        · refine w_lloadN (pc' := 37) X0 d2_36 rfl rfl ?_
          refine w_ldc2 (pc' := 40) (z := (-2147483648 : Int64)) X0 d2_37 (hw _ (List.mem_of_getElem? (i := 47) rfl)) rfl ?_
          refine w_lcif_lt (pc' := 41) (pc1 := 54) (pc2 := 44) X0 d2_40 d2_41 (by decide) (fun (hc41 : x1.toInt < (-2147483648 : Int)) => ?_) (fun (hc41 : x1.toInt ≥ (-2147483648 : Int)) => ?_)
          · refine w_bipush (pc' := 56) (z := (8 : Int32)) X0 d2_54 rfl rfl ?_
            have e : own_len x1 = 8 := by unfold own_len; rw [if_neg (by omega), if_neg (by omega), if_neg (by omega)]
            exact w_ireturn X0 d2_56 rfl (⟨by rw [e]; rfl, rfl⟩)
          · refine w_lloadN (pc' := 45) X0 d2_44 rfl rfl ?_
            refine w_ldc2 (pc' := 48) (z := (2147483647 : Int64)) X0 d2_45 (hw _ (List.mem_of_getElem? (i := 49) rfl)) rfl ?_
            refine w_lcif_gt (pc' := 49) (pc1 := 54) (pc2 := 52) X0 d2_48 d2_49 (by decide) (fun (hc49 : x1.toInt > (2147483647 : Int)) => ?_) (fun (hc49 : x1.toInt ≤ (2147483647 : Int)) => ?_)
            · refine w_bipush (pc' := 56) (z := (8 : Int32)) X0 d2_54 rfl rfl ?_
              have e : own_len x1 = 8 := by unfold own_len; rw [if_neg (by omega), if_neg (by omega), if_neg (by omega)]
              exact w_ireturn X0 d2_56 rfl (⟨by rw [e]; rfl, rfl⟩)
            · refine w_iconst (pc' := 53) (z := (4 : Int32)) X0 d2_52 rfl rfl ?_
              have e : own_len x1 = 4 := by unfold own_len; rw [if_neg (by omega), if_neg (by omega), if_pos (by omega)]
              exact w_ireturn X0 d2_53 rfl (⟨by rw [e]; rfl, rfl⟩)
        · refine w_iconst (pc' := 35) (z := (2 : Int32)) X0 d2_34 rfl rfl ?_
          have e : own_len x1 = 2 := by unfold own_len; rw [if_neg (by omega), if_pos (by omega)]
          exact w_ireturn X0 d2_35 rfl (⟨by rw [e]; rfl, rfl⟩)
    · refine w_iconst (pc' := 17) (z := (1 : Int32)) X0 d2_16 rfl rfl ?_
      have e : own_len x1 = 1 := by unfold own_len; rw [if_pos (by omega)]
      exact w_ireturn X0 d2_17 rfl (⟨by rw [e]; rfl, rfl⟩)
theorem d4_0 : decode prog_16_method_1_code 0 = .ok (.aload_n 0, 1) := by decide +kernel
theorem d4_1 : decode prog_16_method_1_code 1 = .ok (.invokespecial 1, 3) := by decide +kernel
theorem d4_4 : decode prog_16_method_1_code 4 = .ok (.aload_n 0, 1) := by decide +kernel
theorem d4_5 : decode prog_16_method_1_code 5 = .ok (.iload_n 1, 1) := by decide +kernel
theorem d4_6 : decode prog_16_method_1_code 6 = .ok (.putfield 7, 3) := by decide +kernel
theorem d4_9 : decode prog_16_method_1_code 9 = .ok (.aload_n 0, 1) := by decide +kernel
theorem d4_10 : decode prog_16_method_1_code 10 = .ok (.aload_n 2, 1) := by decide +kernel
theorem d4_11 : decode prog_16_method_1_code 11 = .ok (.putfield 13, 3) := by decide +kernel
theorem d4_14 : decode prog_16_method_1_code 14 = .ok (.return_, 1) := by decide +kernel
theorem pn_4 : plainName "com/example/gnomic_keys/gnomickeys/codec/Value" = true := by first | (simp [plainName, overriddenIn]; done) | decide +kernel
theorem rm4_ef (m : MethodId) (a : Addr) (f1 : Int32) (ab : Addr) : entryFrame m #[(.ref a), (.int f1), (.ref ab)] 3 = mkF m 0 #[.val (.ref a), .val (.int f1), .val (.ref ab)] [] := by first | (simp [entryFrame, mkF, argsToLocals, Value.category]; done) | rfl
abbrev rm4_Q (Z : State) (a : Addr) (f1 : Int32) (ab : Addr) (h0 : Heap) (n0 : Nat) : Option Value → Heap → Prop := fun v h => v = none ∧ Keep h0 h [a] ∧ Fld Z h a "com/example/gnomic_keys/gnomickeys/codec/Value" "floatingPoint" "Z" (.int (f1 &&& 1)) ∧ Fld Z h a "com/example/gnomic_keys/gnomickeys/codec/Value" "bytes" "[B" (.ref ab)
set_option maxRecDepth 65536 in
set_option maxHeartbeats 40000000 in
theorem rm4 (l : Launch) (Z : State) (a0 : Array Value) (hw : ∀ d ∈ tables_1, d.before a0 Z = true) (ws : List Jvm.Cond) (a : Addr) (f1 : Int32) (ab : Addr) (h : Heap) (n0 : Nat) (hn0 : n0 ≤ h.size) (E0 : Exa Z h a "com/example/gnomic_keys/gnomickeys/codec/Value") (F0_bytes : Fld Z h a "com/example/gnomic_keys/gnomickeys/codec/Value" "bytes" "[B" .null) (F0_floatingPoint : Fld Z h a "com/example/gnomic_keys/gnomickeys/codec/Value" "floatingPoint" "Z" (.int (0 : Int32))) (g0 : n0 ≤ a) :
    Ct l Z (⟨"com/example/gnomic_keys/gnomickeys/codec/Value", "<init>", "(Z[B)V"⟩ : MethodName) prog_16_method_1_code 3 none ws ({ frames := 1, cells := 0, slots := 0, locals := 12 } : Room) #[(.ref a), (.int f1), (.ref ab)] h n0 (rm4_Q Z a f1 ab h n0) := by
  refine Ct.of (plainFor_of_name pn_4) hn0 (fun m => rm4_ef m a f1 ab) ?_
  intro p e s m below meth c T0 X0
  replace X0 : Sn Z n0 prog_16_method_1_code 3 "com/example/gnomic_keys/gnomickeys/codec/Value" "<init>" none p l e ({ frames := 1, cells := 0, slots := 0, locals := 12 } : Room) s m #[(.ref a), (.int f1), (.ref ab)] below meth c T0 h 0 0 := X0
  have K0 := Keep.refl h [a]
  refine w_aloadN (pc' := 1) X0 d4_0 rfl rfl rfl ?_
  refine w_initO (pc' := 4) (wd := 0) X0 d4_1 (hw _ (List.mem_of_getElem? (i := 19) rfl)) (hw _ (List.mem_of_getElem? (i := 20) rfl)) (hw _ (List.mem_of_getElem? (i := 21) rfl)) rfl (Nat.le_of_eq rfl) (by decide) (fun T1 X1 => ?_)
  refine w_aloadN (pc' := 5) X1 d4_4 rfl rfl rfl ?_
  refine w_iloadN (pc' := 6) X1 d4_5 rfl rfl ?_
  refine w_putfield (pc' := 9) (ty := .boolean) (v' := (.int (f1 &&& 1))) X1 F0_floatingPoint E0 d4_6 (hw _ (List.mem_of_getElem? (i := 22) rfl)) Via.refl (Or.inr ⟨(hw _ (List.mem_of_getElem? (i := 23) rfl)), rfl, rfl⟩) (hw _ (List.mem_of_getElem? (i := 15) rfl)) (by decide) rfl (fits_nar_bool _) rfl g0 (fun T2 h2 X2 W2 => ?_)
  have E3 := E0.wr W2
  have F4 := F0_bytes.other W2 (Or.inr (slot_ne (Or.inr (hw _ (List.mem_of_getElem? (i := 25) rfl))) (Or.inr (hw _ (List.mem_of_getElem? (i := 23) rfl))) (by decide) (t := (.array .byte)) (t' := .boolean) (by decide) (by decide)))
  have F2 := F0_floatingPoint.same W2
  have K2 := K0.wr W2 (Or.inl (List.mem_of_getElem? (i := 0) rfl))
  refine w_aloadN (pc' := 10) X2 d4_9 rfl rfl rfl ?_
  refine w_aloadN (pc' := 11) X2 d4_10 rfl rfl rfl ?_
  refine w_putfield (pc' := 14) (ty := (.array .byte)) (v' := (.ref ab)) X2 F4 E3 d4_11 (hw _ (List.mem_of_getElem? (i := 24) rfl)) Via.refl (Or.inr ⟨(hw _ (List.mem_of_getElem? (i := 25) rfl)), rfl, rfl⟩) (hw _ (List.mem_of_getElem? (i := 15) rfl)) (by decide) rfl rfl rfl g0 (fun T5 h5 X5 W5 => ?_)
  have E6 := E3.wr W5
  have F7 := F2.other W5 (Or.inr (slot_ne (Or.inr (hw _ (List.mem_of_getElem? (i := 23) rfl))) (Or.inr (hw _ (List.mem_of_getElem? (i := 25) rfl))) (by decide) (t := .boolean) (t' := (.array .byte)) (by decide) (by decide)))
  have F5 := F4.same W5
  have K5 := K2.wr W5 (Or.inl (List.mem_of_getElem? (i := 0) rfl))
  exact w_return X5 d4_14 rfl (⟨rfl, K5, F7, F5⟩)
theorem pd_134 : parseMethodDescriptor "(Z[B)V" = some ⟨[.boolean, (.array .byte)], none⟩ := by decide +kernel
theorem d3_0 : decode prog_16_method_2_code 0 = .ok (.lload_n 0, 1) := by decide +kernel
theorem d3_1 : decode prog_16_method_2_code 1 = .ok (.lload_n 0, 1) := by decide +kernel
theorem d3_2 : decode prog_16_method_2_code 2 = .ok (.l2i, 1) := by decide +kernel
theorem d3_3 : decode prog_16_method_2_code 3 = .ok (.i2b, 1) := by decide +kernel
theorem d3_4 : decode prog_16_method_2_code 4 = .ok (.i2l, 1) := by decide +kernel
theorem d3_5 : decode prog_16_method_2_code 5 = .ok (.lcmp, 1) := by decide +kernel
theorem d3_6 : decode prog_16_method_2_code 6 = .ok (.ifCond .ne 8, 3) := by decide +kernel
theorem d3_9 : decode prog_16_method_2_code 9 = .ok (.iconst 1, 1) := by decide +kernel
theorem d3_10 : decode prog_16_method_2_code 10 = .ok (.istore_n 2, 1) := by decide +kernel
theorem d3_11 : decode prog_16_method_2_code 11 = .ok (.goto 33, 3) := by decide +kernel
theorem d3_14 : decode prog_16_method_2_code 14 = .ok (.lload_n 0, 1) := by decide +kernel
theorem d3_15 : decode prog_16_method_2_code 15 = .ok (.lload_n 0, 1) := by decide +kernel
theorem d3_16 : decode prog_16_method_2_code 16 = .ok (.l2i, 1) := by decide +kernel
theorem d3_17 : decode prog_16_method_2_code 17 = .ok (.i2s, 1) := by decide +kernel
theorem d3_18 : decode prog_16_method_2_code 18 = .ok (.i2l, 1) := by decide +kernel
theorem d3_19 : decode prog_16_method_2_code 19 = .ok (.lcmp, 1) := by decide +kernel
theorem d3_20 : decode prog_16_method_2_code 20 = .ok (.ifCond .ne 8, 3) := by decide +kernel
theorem d3_23 : decode prog_16_method_2_code 23 = .ok (.iconst 2, 1) := by decide +kernel
theorem d3_24 : decode prog_16_method_2_code 24 = .ok (.istore_n 2, 1) := by decide +kernel
theorem d3_25 : decode prog_16_method_2_code 25 = .ok (.goto 19, 3) := by decide +kernel
theorem d3_28 : decode prog_16_method_2_code 28 = .ok (.lload_n 0, 1) := by decide +kernel
theorem d3_29 : decode prog_16_method_2_code 29 = .ok (.lload_n 0, 1) := by decide +kernel
theorem d3_30 : decode prog_16_method_2_code 30 = .ok (.l2i, 1) := by decide +kernel
theorem d3_31 : decode prog_16_method_2_code 31 = .ok (.i2l, 1) := by decide +kernel
theorem d3_32 : decode prog_16_method_2_code 32 = .ok (.lcmp, 1) := by decide +kernel
theorem d3_33 : decode prog_16_method_2_code 33 = .ok (.ifCond .ne 8, 3) := by decide +kernel
theorem d3_36 : decode prog_16_method_2_code 36 = .ok (.iconst 4, 1) := by decide +kernel
theorem d3_37 : decode prog_16_method_2_code 37 = .ok (.istore_n 2, 1) := by decide +kernel
theorem d3_38 : decode prog_16_method_2_code 38 = .ok (.goto 6, 3) := by decide +kernel
theorem d3_41 : decode prog_16_method_2_code 41 = .ok (.bipush 8, 2) := by decide +kernel
theorem d3_43 : decode prog_16_method_2_code 43 = .ok (.istore_n 2, 1) := by decide +kernel
theorem d3_44 : decode prog_16_method_2_code 44 = .ok (.iload_n 2, 1) := by decide +kernel
theorem d3_45 : decode prog_16_method_2_code 45 = .ok (.newarray .byte, 2) := by decide +kernel
theorem d3_47 : decode prog_16_method_2_code 47 = .ok (.astore_n 3, 1) := by decide +kernel
theorem d3_48 : decode prog_16_method_2_code 48 = .ok (.iconst 0, 1) := by decide +kernel
theorem d3_49 : decode prog_16_method_2_code 49 = .ok (.istore 4, 2) := by decide +kernel
theorem d3_51 : decode prog_16_method_2_code 51 = .ok (.iload 4, 2) := by decide +kernel
theorem d3_53 : decode prog_16_method_2_code 53 = .ok (.iload_n 2, 1) := by decide +kernel
theorem d3_54 : decode prog_16_method_2_code 54 = .ok (.if_icmp .ge 26, 3) := by decide +kernel
theorem d3_57 : decode prog_16_method_2_code 57 = .ok (.aload_n 3, 1) := by decide +kernel
theorem d3_58 : decode prog_16_method_2_code 58 = .ok (.iload 4, 2) := by decide +kernel
theorem d3_60 : decode prog_16_method_2_code 60 = .ok (.lload_n 0, 1) := by decide +kernel
theorem d3_61 : decode prog_16_method_2_code 61 = .ok (.bipush 8, 2) := by decide +kernel
theorem d3_63 : decode prog_16_method_2_code 63 = .ok (.iload_n 2, 1) := by decide +kernel
theorem d3_64 : decode prog_16_method_2_code 64 = .ok (.iconst 1, 1) := by decide +kernel
theorem d3_65 : decode prog_16_method_2_code 65 = .ok (.isub, 1) := by decide +kernel
theorem d3_66 : decode prog_16_method_2_code 66 = .ok (.iload 4, 2) := by decide +kernel
theorem d3_68 : decode prog_16_method_2_code 68 = .ok (.isub, 1) := by decide +kernel
theorem d3_69 : decode prog_16_method_2_code 69 = .ok (.imul, 1) := by decide +kernel
theorem d3_70 : decode prog_16_method_2_code 70 = .ok (.lshr, 1) := by decide +kernel
theorem d3_71 : decode prog_16_method_2_code 71 = .ok (.l2i, 1) := by decide +kernel
theorem d3_72 : decode prog_16_method_2_code 72 = .ok (.i2b, 1) := by decide +kernel
theorem d3_73 : decode prog_16_method_2_code 73 = .ok (.bastore, 1) := by decide +kernel
theorem d3_74 : decode prog_16_method_2_code 74 = .ok (.iinc 4 1, 3) := by decide +kernel
theorem d3_77 : decode prog_16_method_2_code 77 = .ok (.goto (-26), 3) := by decide +kernel
theorem d3_80 : decode prog_16_method_2_code 80 = .ok (.new 8, 3) := by decide +kernel
theorem d3_83 : decode prog_16_method_2_code 83 = .ok (.dup, 1) := by decide +kernel
theorem d3_84 : decode prog_16_method_2_code 84 = .ok (.iconst 0, 1) := by decide +kernel
theorem d3_85 : decode prog_16_method_2_code 85 = .ok (.aload_n 3, 1) := by decide +kernel
theorem d3_86 : decode prog_16_method_2_code 86 = .ok (.invokespecial 25, 3) := by decide +kernel
theorem d3_89 : decode prog_16_method_2_code 89 = .ok (.areturn, 1) := by decide +kernel
theorem rm3_ef (m : MethodId) (x1 : Int64) : entryFrame m #[(.long x1)] 5 = mkF m 0 #[.val (.long x1), .second, .unset, .unset, .unset] [] := by first | (simp [entryFrame, mkF, argsToLocals, Value.category]; done) | rfl
abbrev rm3_Q (Z : State) (x1 : Int64) (h0 : Heap) (n0 : Nat) : Option Value → Heap → Prop := fun v h => ∃ b ab, v = some (.ref b) ∧ Keep h0 h [] ∧ Exa Z h b "com/example/gnomic_keys/gnomickeys/codec/Value" ∧ Fld Z h b "com/example/gnomic_keys/gnomickeys/codec/Value" "floatingPoint" "Z" (.int 0) ∧ Fld Z h b "com/example/gnomic_keys/gnomickeys/codec/Value" "bytes" "[B" (.ref ab) ∧ AF Z h ab .byte (own_len x1) (fun j => .int (own_b (own_len x1) x1 j))
set_option maxRecDepth 65536 in
set_option maxHeartbeats 40000000 in
theorem rm3 (l : Launch) (Z : State) (a0 : Array Value) (hw : ∀ d ∈ tables_1, d.before a0 Z = true) (ws : List Jvm.Cond) (x1 : Int64) (h : Heap) (n0 : Nat) (hn0 : n0 ≤ h.size) :
    Ct l Z (⟨"com/example/gnomic_keys/gnomickeys/codec/Value", "ofInteger", "(J)Lcom/example/gnomic_keys/gnomickeys/codec/Value;"⟩ : MethodName) prog_16_method_2_code 5 (some (.object "com/example/gnomic_keys/gnomickeys/codec/Value")) ws ({ frames := 2, cells := 2, slots := 10, locals := 27 } : Room) #[(.long x1)] h n0 (rm3_Q Z x1 h n0) := by
  refine Ct.of (plainFor_of_name pn_4) hn0 (fun m => rm3_ef m x1) ?_
  intro p e s m below meth c T0 X0
  replace X0 : Sn Z n0 prog_16_method_2_code 5 "com/example/gnomic_keys/gnomickeys/codec/Value" "ofInteger" (some (.object "com/example/gnomic_keys/gnomickeys/codec/Value")) p l e ({ frames := 2, cells := 2, slots := 10, locals := 27 } : Room) s m #[(.long x1)] below meth c T0 h 0 0 := X0
  have K0 := Keep.refl h []
  have J44 : ∀ (N : Nat), own_len x1 = N → 1 ≤ N → N ≤ 8 → W p e below s ({ frames := 2, cells := 2, slots := 10, locals := 27 } : Room) n0 (rm3_Q Z x1 h n0) (T0.setTop (mkF m 44 #[.val (.long x1), .second, .val (.int (Int32.ofNat N)), .unset, .unset] [])) := by
    intro N hN hN1 hN2
    refine w_iloadN (pc' := 45) X0 d3_44 rfl rfl ?_
    refine w_newarray (pc' := 47) (n := N) (cap := 8) X0 d3_45 (hw _ (List.mem_of_getElem? (i := 13) rfl)) (own_i (by omega)) (by omega) (by decide) (fun T1 h1 b1 X1 E1 q1 g1 F1 => ?_)
    have K2 := K0.ext E1
    have kp1 : h.size ≤ b1 := Nat.le_trans K0.1 (Nat.le_of_eq q1.symm)
    have L51 : ∀ (k i : Nat) (T : State) (hh : Heap), i + k = N → Sn Z n0 prog_16_method_2_code 5 "com/example/gnomic_keys/gnomickeys/codec/Value" "ofInteger" (some (.object "com/example/gnomic_keys/gnomickeys/codec/Value")) p l e ({ frames := 2, cells := 2, slots := 10, locals := 27 } : Room) s m #[(.long x1)] below meth c T hh 1 8 → Keep h hh [] → AF Z hh b1 .byte N (own_f N x1 i) → W p e below s ({ frames := 2, cells := 2, slots := 10, locals := 27 } : Room) n0 (rm3_Q Z x1 h n0) (T.setTop (mkF m 51 #[.val (.long x1), .second, .val (.int (Int32.ofNat N)), .val (.ref b1), .val (.int (Int32.ofNat i))] [])) := by
      intro k
      induction k with
      | zero =>
        intro i T hh hi X Kh Fb
        have ei : (Int32.ofNat i).toInt = i := own_i (by omega)
        have en : (Int32.ofNat N).toInt = N := own_i (by omega)
        refine w_iload (pc' := 53) X d3_51 rfl rfl ?_
        refine w_iloadN (pc' := 54) X d3_53 rfl rfl ?_
        refine w_icmp_ge (pc1 := 80) (pc2 := 57) X d3_54 (by decide) (fun (hc54 : (Int32.ofNat i).toInt ≥ (Int32.ofNat N).toInt) => ?_) (fun (hc54 : (Int32.ofNat i).toInt < (Int32.ofNat N).toInt) => by omega)
        refine w_new (pc' := 83) X d3_80 (hw _ (List.mem_of_getElem? (i := 14) rfl)) (hw _ (List.mem_of_getElem? (i := 15) rfl)) (hw _ (List.mem_of_getElem? (i := 11) rfl)) (by decide) (fun T3 h3 b3 X3 E3 q3 g3 A3 D3 => ?_)
        have ne4 : b1 ≠ b3 := ne_size q3 Fb.lt
        have F5 := Fb.ext E3
        have K6 := Kh.ext E3
        have F7 : Fld Z h3 b3 "com/example/gnomic_keys/gnomickeys/codec/Value" "floatingPoint" "Z" (.int (0 : Int32)) := D3 (Or.inr (hw _ (List.mem_of_getElem? (i := 23) rfl))) (ty := .boolean) (by decide)
        have F8 : Fld Z h3 b3 "com/example/gnomic_keys/gnomickeys/codec/Value" "bytes" "[B" .null := D3 (Or.inr (hw _ (List.mem_of_getElem? (i := 25) rfl))) (ty := (.array .byte)) (by decide)
        have kp3 : h.size ≤ b3 := Nat.le_trans Kh.1 (Nat.le_of_eq q3.symm)
        refine w_dup (pc' := 84) X3 d3_83 rfl rfl ?_
        refine w_iconst (pc' := 85) (z := (0 : Int32)) X3 d3_84 rfl rfl ?_
        refine w_aloadN (pc' := 86) X3 d3_85 rfl rfl rfl ?_
        refine w_callC (pc' := 89) (wd := 1) (argsL := [(.int (0 : Int32)), (.ref b1)]) (rest := [(.ref b3)]) (Q2 := (rm4_Q Z b3 (0 : Int32) b1 h3 n0)) (a := b3) X3 rfl d3_86 (hw _ (List.mem_of_getElem? (i := 16) rfl)) (hw _ (List.mem_of_getElem? (i := 17) rfl)) (hw _ (List.mem_of_getElem? (i := 11) rfl)) (hw _ (List.mem_of_getElem? (i := 18) rfl)) (by decide) (rm4 l Z a0 hw [] b3 (0 : Int32) b1 h3 n0 X3.size A3 F8 F7 g3) pd_134 rfl rfl rfl (Nat.le_of_eq rfl) (by decide) (fun v9 T9 h9 X9 q9 => ?_)
        obtain ⟨rfl, Kc9, Fc9_0, Fc9_1⟩ := q9
        have F10 := F5.keep Kc9 (ninS ne4 nin0)
        have E11 := A3.keep Kc9
        have K12 := Keep.trans K6 Kc9 (allS (Or.inr kp3) all0)
        have Ff9 : Fld Z h9 b3 "com/example/gnomic_keys/gnomickeys/codec/Value" "floatingPoint" "Z" (.int (0 : Int32)) := Fc9_0
        have Fz := F10.congr (g := fun j => .int (own_b N x1 j)) (fun j hj => by unfold own_f; rw [if_pos (by omega)])
        subst hN
        exact w_areturn (t := (.object "com/example/gnomic_keys/gnomickeys/codec/Value")) X9 d3_89 rfl rfl rfl rfl (⟨b3, b1, rfl, K12, E11, Ff9, Fc9_1, Fz⟩)
      | succ k ih =>
        intro i T hh hi X Kh Fb
        have ei : (Int32.ofNat i).toInt = i := own_i (by omega)
        have en : (Int32.ofNat N).toInt = N := own_i (by omega)
        refine w_iload (pc' := 53) X d3_51 rfl rfl ?_
        refine w_iloadN (pc' := 54) X d3_53 rfl rfl ?_
        refine w_icmp_ge (pc1 := 80) (pc2 := 57) X d3_54 (by decide) (fun (hc54 : (Int32.ofNat i).toInt ≥ (Int32.ofNat N).toInt) => by omega) (fun (hc54 : (Int32.ofNat i).toInt < (Int32.ofNat N).toInt) => ?_)
        refine w_aloadN (pc' := 58) X d3_57 rfl rfl rfl ?_
        refine w_iload (pc' := 60) X d3_58 rfl rfl ?_
        refine w_lloadN (pc' := 61) X d3_60 rfl rfl ?_
        refine w_bipush (pc' := 63) (z := (8 : Int32)) X d3_61 rfl rfl ?_
        refine w_iloadN (pc' := 64) X d3_63 rfl rfl ?_
        refine w_iconst (pc' := 65) (z := (1 : Int32)) X d3_64 rfl rfl ?_
        refine w_isub (pc' := 66) X d3_65 rfl ?_
        refine w_iload (pc' := 68) X d3_66 rfl rfl ?_
        refine w_isub (pc' := 69) X d3_68 rfl ?_
        refine w_imul (pc' := 70) X d3_69 rfl ?_
        refine w_lshr (pc' := 71) X d3_70 rfl ?_
        refine w_l2i (pc' := 72) X d3_71 rfl ?_
        refine w_i2b (pc' := 73) X d3_72 rfl ?_
        refine w_bastoreB (pc' := 74) (i := i) X Fb d3_73 ei (by omega) rfl g1 (fun T13 h13 X13 W13 => ?_)
        have F13 := Fb.set W13
        have K13 := Kh.wr W13 (Or.inr kp1)
        refine w_iinc (pc' := 77) (z := (Int32.ofNat (i + 1))) (L' := #[.val (.long x1), .second, .val (.int (Int32.ofNat N)), .val (.ref b1), .val (.int (Int32.ofNat (i + 1)))]) X13 d3_74 rfl (own_succ i) rfl rfl ?_
        refine w_goto (pc' := 51) X13 d3_77 (by decide) ?_
        exact ih (i + 1) _ _ (by omega) X13 K13 (F13.congr fun j _ => own_up N x1 i j)
    refine w_astoreN (pc' := 48) (L' := #[.val (.long x1), .second, .val (.int (Int32.ofNat N)), .val (.ref b1), .unset]) X1 d3_47 rfl rfl rfl ?_
    refine w_iconst (pc' := 49) (z := (0 : Int32)) X1 d3_48 rfl rfl ?_
    refine w_istore (pc' := 51) (L' := #[.val (.long x1), .second, .val (.int (Int32.ofNat N)), .val (.ref b1), .val (.int (0 : Int32))]) X1 d3_49 rfl rfl ?_
    exact L51 N 0 _ _ (by omega) X1 K2 (F1.congr fun j _ => rfl)
  refine w_lloadN (pc' := 1) X0 d3_0 rfl rfl ?_
  refine w_lloadN (pc' := 2) X0 d3_1 rfl rfl ?_
  refine w_l2i (pc' := 3) X0 d3_2 rfl ?_
  refine w_i2b (pc' := 4) X0 d3_3 rfl ?_
  refine w_i2l (pc' := 5) X0 d3_4 rfl ?_
  refine w_lcif_ne (pc' := 6) (pc1 := 14) (pc2 := 9) X0 d3_5 d3_6 (by decide) (fun (hc6 : x1 ≠ x1.toInt32.toInt8.toInt32.toInt64) => ?_) (fun (hc6 : x1 = x1.toInt32.toInt8.toInt32.toInt64) => ?_)
  · refine w_lloadN (pc' := 15) X0 d3_14 rfl rfl ?_
    refine w_lloadN (pc' := 16) X0 d3_15 rfl rfl ?_
    refine w_l2i (pc' := 17) X0 d3_16 rfl ?_
    refine w_i2s (pc' := 18) X0 d3_17 rfl ?_
    refine w_i2l (pc' := 19) X0 d3_18 rfl ?_
    refine w_lcif_ne (pc' := 20) (pc1 := 28) (pc2 := 23) X0 d3_19 d3_20 (by decide) (fun (hc20 : x1 ≠ x1.toInt32.toInt16.toInt32.toInt64) => ?_) (fun (hc20 : x1 = x1.toInt32.toInt16.toInt32.toInt64) => ?_)
    · refine w_lloadN (pc' := 29) X0 d3_28 rfl rfl ?_
      refine w_lloadN (pc' := 30) X0 d3_29 rfl rfl ?_
      refine w_l2i (pc' := 31) X0 d3_30 rfl ?_
      refine w_i2l (pc' := 32) X0 d3_31 rfl ?_
      refine w_lcif_ne (pc' := 33) (pc1 := 41) (pc2 := 36) X0 d3_32 d3_33 (by decide) (fun (hc33 : x1 ≠ x1.toInt32.toInt64) => ?_) (fun (hc33 : x1 = x1.toInt32.toInt64) => ?_)
      · refine w_bipush (pc' := 43) (z := (8 : Int32)) X0 d3_41 rfl rfl ?_
        refine w_istoreN (pc' := 44) (L' := #[.val (.long x1), .second, .val (.int (8 : Int32)), .unset, .unset]) X0 d3_43 rfl rfl ?_
        exact J44 8 (own_l8 hc6 hc20 hc33) (by decide) (by decide)
      · refine w_iconst (pc' := 37) (z := (4 : Int32)) X0 d3_36 rfl rfl ?_
        refine w_istoreN (pc' := 38) (L' := #[.val (.long x1), .second, .val (.int (4 : Int32)), .unset, .unset]) X0 d3_37 rfl rfl ?_
        refine w_goto (pc' := 44) X0 d3_38 (by decide) ?_
        exact J44 4 (own_l4 hc6 hc20 hc33) (by decide) (by decide)
    · refine w_iconst (pc' := 24) (z := (2 : Int32)) X0 d3_23 rfl rfl ?_
      refine w_istoreN (pc' := 25) (L' := #[.val (.long x1), .second, .val (.int (2 : Int32)), .unset, .unset]) X0 d3_24 rfl rfl ?_
      refine w_goto (pc' := 44) X0 d3_25 (by decide) ?_
      exact J44 2 (own_l2 hc6 hc20) (by decide) (by decide)
  · refine w_iconst (pc' := 10) (z := (1 : Int32)) X0 d3_9 rfl rfl ?_
    refine w_istoreN (pc' := 11) (L' := #[.val (.long x1), .second, .val (.int (1 : Int32)), .unset, .unset]) X0 d3_10 rfl rfl ?_
    refine w_goto (pc' := 44) X0 d3_11 (by decide) ?_
    exact J44 1 (own_l1 hc6) (by decide) (by decide)
theorem d6_0 : decode prog_16_method_7_code 0 = .ok (.aload_n 0, 1) := by decide +kernel
theorem d6_1 : decode prog_16_method_7_code 1 = .ok (.getfield 7, 3) := by decide +kernel
theorem d6_4 : decode prog_16_method_7_code 4 = .ok (.ireturn, 1) := by decide +kernel
theorem rm6_ef (m : MethodId) (a : Addr) : entryFrame m #[(.ref a)] 1 = mkF m 0 #[.val (.ref a)] [] := by first | (simp [entryFrame, mkF, argsToLocals, Value.category]; done) | rfl
abbrev rm6_Q (Z : State) (a : Addr) (h0 : Heap) (n0 : Nat) : Option Value → Heap → Prop := fun v h => v = some (.int 0) ∧ h0 = h
set_option maxRecDepth 65536 in
set_option maxHeartbeats 40000000 in
theorem rm6 (l : Launch) (Z : State) (a0 : Array Value) (hw : ∀ d ∈ tables_1, d.before a0 Z = true) (ws : List Jvm.Cond) (a : Addr) (h : Heap) (n0 : Nat) (hn0 : n0 ≤ h.size) (F0 : Fld Z h a "com/example/gnomic_keys/gnomickeys/codec/Value" "floatingPoint" "Z" (.int 0)) :
    Ct l Z (⟨"com/example/gnomic_keys/gnomickeys/codec/Value", "isFloatingPoint", "()Z"⟩ : MethodName) prog_16_method_7_code 1 (some .boolean) ws ({ frames := 0, cells := 0, slots := 0, locals := 0 } : Room) #[(.ref a)] h n0 (rm6_Q Z a h n0) := by
  refine Ct.of (plainFor_of_name pn_4) hn0 (fun m => rm6_ef m a) ?_
  intro p e s m below meth c T0 X0
  replace X0 : Sn Z n0 prog_16_method_7_code 1 "com/example/gnomic_keys/gnomickeys/codec/Value" "isFloatingPoint" (some .boolean) p l e ({ frames := 0, cells := 0, slots := 0, locals := 0 } : Room) s m #[(.ref a)] below meth c T0 h 0 0 := X0
  refine w_aloadN (pc' := 1) X0 d6_0 rfl rfl rfl ?_
  refine w_getfield (pc' := 4) X0 F0 d6_1 (hw _ (List.mem_of_getElem? (i := 22) rfl)) Via.refl rfl (fun T1 X1 => ?_)
  exact w_nreturn (t := .boolean) X1 d6_4 rfl (by simp) (⟨rfl, rfl⟩)
theorem d7_0 : decode prog_16_method_8_code 0 = .ok (.aload_n 0, 1) := by decide +kernel
theorem d7_1 : decode prog_16_method_8_code 1 = .ok (.getfield 13, 3) := by decide +kernel
theorem d7_4 : decode prog_16_method_8_code 4 = .ok (.arraylength, 1) := by decide +kernel
theorem d7_5 : decode prog_16_method_8_code 5 = .ok (.ireturn, 1) := by decide +kernel
theorem rm7_ef (m : MethodId) (a : Addr) : entryFrame m #[(.ref a)] 1 = mkF m 0 #[.val (.ref a)] [] := by first | (simp [entryFrame, mkF, argsToLocals, Value.category]; done) | rfl
abbrev rm7_Q (Z : State) (a : Addr) (ab : Addr) (N : Nat) (bb : Nat → Value) (h0 : Heap) (n0 : Nat) : Option Value → Heap → Prop := fun v h => v = some (.int (Int32.ofNat N)) ∧ h0 = h
set_option maxRecDepth 65536 in
set_option maxHeartbeats 40000000 in
theorem rm7 (l : Launch) (Z : State) (a0 : Array Value) (hw : ∀ d ∈ tables_1, d.before a0 Z = true) (ws : List Jvm.Cond) (a : Addr) (ab : Addr) (N : Nat) (bb : Nat → Value) (h : Heap) (n0 : Nat) (hn0 : n0 ≤ h.size) (F0 : Fld Z h a "com/example/gnomic_keys/gnomickeys/codec/Value" "bytes" "[B" (.ref ab)) (A1 : AF Z h ab .byte N bb) :
    Ct l Z (⟨"com/example/gnomic_keys/gnomickeys/codec/Value", "length", "()I"⟩ : MethodName) prog_16_method_8_code 1 (some .int) ws ({ frames := 0, cells := 0, slots := 0, locals := 0 } : Room) #[(.ref a)] h n0 (rm7_Q Z a ab N bb h n0) := by
  refine Ct.of (plainFor_of_name pn_4) hn0 (fun m => rm7_ef m a) ?_
  intro p e s m below meth c T0 X0
  replace X0 : Sn Z n0 prog_16_method_8_code 1 "com/example/gnomic_keys/gnomickeys/codec/Value" "length" (some .int) p l e ({ frames := 0, cells := 0, slots := 0, locals := 0 } : Room) s m #[(.ref a)] below meth c T0 h 0 0 := X0
  refine w_aloadN (pc' := 1) X0 d7_0 rfl rfl rfl ?_
  refine w_getfield (pc' := 4) X0 F0 d7_1 (hw _ (List.mem_of_getElem? (i := 24) rfl)) Via.refl rfl (fun T1 X1 => ?_)
  refine w_arraylength (pc' := 5) (z := (Int32.ofNat N)) X1 A1 d7_4 (own_i A1.len) rfl ?_
  exact w_ireturn X1 d7_5 rfl (⟨rfl, rfl⟩)
theorem d8_0 : decode prog_16_method_10_code 0 = .ok (.aload_n 0, 1) := by decide +kernel
theorem d8_1 : decode prog_16_method_10_code 1 = .ok (.getfield 7, 3) := by decide +kernel
theorem d8_4 : decode prog_16_method_10_code 4 = .ok (.ifCond .eq 20, 3) := by decide +kernel
theorem d8_24 : decode prog_16_method_10_code 24 = .ok (.aload_n 0, 1) := by decide +kernel
theorem d8_25 : decode prog_16_method_10_code 25 = .ok (.getfield 13, 3) := by decide +kernel
theorem d8_28 : decode prog_16_method_10_code 28 = .ok (.iconst 0, 1) := by decide +kernel
theorem d8_29 : decode prog_16_method_10_code 29 = .ok (.baload, 1) := by decide +kernel
theorem d8_30 : decode prog_16_method_10_code 30 = .ok (.i2l, 1) := by decide +kernel
theorem d8_31 : decode prog_16_method_10_code 31 = .ok (.lstore_n 1, 1) := by decide +kernel
theorem d8_32 : decode prog_16_method_10_code 32 = .ok (.iconst 1, 1) := by decide +kernel
theorem d8_33 : decode prog_16_method_10_code 33 = .ok (.istore_n 3, 1) := by decide +kernel
theorem d8_34 : decode prog_16_method_10_code 34 = .ok (.iload_n 3, 1) := by decide +kernel
theorem d8_35 : decode prog_16_method_10_code 35 = .ok (.aload_n 0, 1) := by decide +kernel
theorem d8_36 : decode prog_16_method_10_code 36 = .ok (.getfield 13, 3) := by decide +kernel
theorem d8_39 : decode prog_16_method_10_code 39 = .ok (.arraylength, 1) := by decide +kernel
theorem d8_40 : decode prog_16_method_10_code 40 = .ok (.if_icmp .ge 26, 3) := by decide +kernel
theorem d8_43 : decode prog_16_method_10_code 43 = .ok (.lload_n 1, 1) := by decide +kernel
theorem d8_44 : decode prog_16_method_10_code 44 = .ok (.bipush 8, 2) := by decide +kernel
theorem d8_46 : decode prog_16_method_10_code 46 = .ok (.lshl, 1) := by decide +kernel
theorem d8_47 : decode prog_16_method_10_code 47 = .ok (.aload_n 0, 1) := by decide +kernel
theorem d8_48 : decode prog_16_method_10_code 48 = .ok (.getfield 13, 3) := by decide +kernel
theorem d8_51 : decode prog_16_method_10_code 51 = .ok (.iload_n 3, 1) := by decide +kernel
theorem d8_52 : decode prog_16_method_10_code 52 = .ok (.baload, 1) := by decide +kernel
theorem d8_53 : decode prog_16_method_10_code 53 = .ok (.sipush 255, 3) := by decide +kernel
theorem d8_56 : decode prog_16_method_10_code 56 = .ok (.iand, 1) := by decide +kernel
theorem d8_57 : decode prog_16_method_10_code 57 = .ok (.i2l, 1) := by decide +kernel
theorem d8_58 : decode prog_16_method_10_code 58 = .ok (.lor, 1) := by decide +kernel
theorem d8_59 : decode prog_16_method_10_code 59 = .ok (.lstore_n 1, 1) := by decide +kernel
theorem d8_60 : decode prog_16_method_10_code 60 = .ok (.iinc 3 1, 3) := by decide +kernel
theorem d8_63 : decode prog_16_method_10_code 63 = .ok (.goto (-29), 3) := by decide +kernel
theorem d8_66 : decode prog_16_method_10_code 66 = .ok (.lload_n 1, 1) := by decide +kernel
theorem d8_67 : decode prog_16_method_10_code 67 = .ok (.lreturn, 1) := by decide +kernel
theorem rm8_ef (m : MethodId) (a : Addr) : entryFrame m #[(.ref a)] 4 = mkF m 0 #[.val (.ref a), .unset, .unset, .unset] [] := by first | (simp [entryFrame, mkF, argsToLocals, Value.category]; done) | rfl
abbrev rm8_Q (Z : State) (a : Addr) (ab : Addr) (N : Nat) (bb : Nat → Int32) (h0 : Heap) (n0 : Nat) : Option Value → Heap → Prop := fun v h => v = some (.long (own_acc bb (N - 1))) ∧ h0 = h
set_option maxRecDepth 65536 in
set_option maxHeartbeats 40000000 in
theorem rm8 (l : Launch) (Z : State) (a0 : Array Value) (hw : ∀ d ∈ tables_1, d.before a0 Z = true) (ws : List Jvm.Cond) (a : Addr) (ab : Addr) (N : Nat) (bb : Nat → Int32) (h : Heap) (n0 : Nat) (hn0 : n0 ≤ h.size) (F0 : Fld Z h a "com/example/gnomic_keys/gnomickeys/codec/Value" "bytes" "[B" (.ref ab)) (F1 : Fld Z h a "com/example/gnomic_keys/gnomickeys/codec/Value" "floatingPoint" "Z" (.int 0)) (A1 : AF Z h ab .byte N (fun j => .int (bb j))) (hN : 1 ≤ N) :
    Ct l Z (⟨"com/example/gnomic_keys/gnomickeys/codec/Value", "longValue", "()J"⟩ : MethodName) prog_16_method_10_code 4 (some .long) ws ({ frames := 0, cells := 0, slots := 0, locals := 0 } : Room) #[(.ref a)] h n0 (rm8_Q Z a ab N bb h n0) := by
  refine Ct.of (plainFor_of_name pn_4) hn0 (fun m => rm8_ef m a) ?_
  intro p e s m below meth c T0 X0
  replace X0 : Sn Z n0 prog_16_method_10_code 4 "com/example/gnomic_keys/gnomickeys/codec/Value" "longValue" (some .long) p l e ({ frames := 0, cells := 0, slots := 0, locals := 0 } : Room) s m #[(.ref a)] below meth c T0 h 0 0 := X0
  have L34 : ∀ (k i : Nat) (T : State), i + 1 + k = N → Sn Z n0 prog_16_method_10_code 4 "com/example/gnomic_keys/gnomickeys/codec/Value" "longValue" (some .long) p l e ({ frames := 0, cells := 0, slots := 0, locals := 0 } : Room) s m #[(.ref a)] below meth c T h 0 0 → W p e below s ({ frames := 0, cells := 0, slots := 0, locals := 0 } : Room) n0 (rm8_Q Z a ab N bb h n0) (T.setTop (mkF m 34 #[.val (.ref a), .val (.long (own_acc bb i)), .second, .val (.int (Int32.ofNat (i + 1)))] [])) := by
    intro k
    induction k with
    | zero =>
      intro i T hi X
      have hn := A1.len
      have ei : (Int32.ofNat (i + 1)).toInt = ((i + 1 : Nat) : Int) := own_i (by omega)
      have en : (Int32.ofNat N).toInt = N := own_i hn
      refine w_iloadN (pc' := 35) X d8_34 rfl rfl ?_
      refine w_aloadN (pc' := 36) X d8_35 rfl rfl rfl ?_
      refine w_getfield (pc' := 39) X F0 d8_36 (hw _ (List.mem_of_getElem? (i := 24) rfl)) Via.refl rfl (fun T1 X1 => ?_)
      refine w_arraylength (pc' := 40) (z := (Int32.ofNat N)) X1 A1 d8_39 (own_i A1.len) rfl ?_
      refine w_icmp_ge (pc1 := 66) (pc2 := 43) X1 d8_40 (by decide) (fun (hc40 : (Int32.ofNat (i + 1)).toInt ≥ (Int32.ofNat N).toInt) => ?_) (fun (hc40 : (Int32.ofNat (i + 1)).toInt < (Int32.ofNat N).toInt) => by omega)
      refine w_lloadN (pc' := 67) X1 d8_66 rfl rfl ?_
      obtain rfl : i = N - 1 := by omega
      exact w_lreturn X1 d8_67 rfl (⟨rfl, rfl⟩)
    | succ k ih =>
      intro i T hi X
      have hn := A1.len
      have ei : (Int32.ofNat (i + 1)).toInt = ((i + 1 : Nat) : Int) := own_i (by omega)
      have en : (Int32.ofNat N).toInt = N := own_i hn
      refine w_iloadN (pc' := 35) X d8_34 rfl rfl ?_
      refine w_aloadN (pc' := 36) X d8_35 rfl rfl rfl ?_
      refine w_getfield (pc' := 39) X F0 d8_36 (hw _ (List.mem_of_getElem? (i := 24) rfl)) Via.refl rfl (fun T2 X2 => ?_)
      refine w_arraylength (pc' := 40) (z := (Int32.ofNat N)) X2 A1 d8_39 (own_i A1.len) rfl ?_
      refine w_icmp_ge (pc1 := 66) (pc2 := 43) X2 d8_40 (by decide) (fun (hc40 : (Int32.ofNat (i + 1)).toInt ≥ (Int32.ofNat N).toInt) => by omega) (fun (hc40 : (Int32.ofNat (i + 1)).toInt < (Int32.ofNat N).toInt) => ?_)
      refine w_lloadN (pc' := 44) X2 d8_43 rfl rfl ?_
      refine w_bipush (pc' := 46) (z := (8 : Int32)) X2 d8_44 rfl rfl ?_
      refine w_lshl (pc' := 47) X2 d8_46 rfl ?_
      refine w_aloadN (pc' := 48) X2 d8_47 rfl rfl rfl ?_
      refine w_getfield (pc' := 51) X2 F0 d8_48 (hw _ (List.mem_of_getElem? (i := 24) rfl)) Via.refl rfl (fun T3 X3 => ?_)
      refine w_iloadN (pc' := 52) X3 d8_51 rfl rfl ?_
      refine w_baloadB (pc' := 53) (i := (i + 1)) (v := (.int (bb (i + 1)))) X3 A1 d8_52 ei (by omega) rfl rfl ?_
      refine w_sipush (pc' := 56) (z := (255 : Int32)) X3 d8_53 rfl rfl ?_
      refine w_iand (pc' := 57) X3 d8_56 rfl ?_
      refine w_i2l (pc' := 58) X3 d8_57 rfl ?_
      refine w_lor (pc' := 59) X3 d8_58 rfl ?_
      refine w_topJ (x' := (own_acc bb (i + 1))) (rfl) ?_
      refine w_lstoreN (pc' := 60) (L' := #[.val (.ref a), .val (.long (own_acc bb (i + 1))), .second, .val (.int (Int32.ofNat (i + 1)))]) X3 d8_59 rfl rfl ?_
      refine w_iinc (pc' := 63) (z := (Int32.ofNat (i + 1 + 1))) (L' := #[.val (.ref a), .val (.long (own_acc bb (i + 1))), .second, .val (.int (Int32.ofNat (i + 1 + 1)))]) X3 d8_60 rfl (own_succ (i + 1)) rfl rfl ?_
      refine w_goto (pc' := 34) X3 d8_63 (by decide) ?_
      exact ih (i + 1) _ (by omega) X3
  refine w_aloadN (pc' := 1) X0 d8_0 rfl rfl rfl ?_
  refine w_getfield (pc' := 4) X0 F1 d8_1 (hw _ (List.mem_of_getElem? (i := 22) rfl)) Via.refl rfl (fun T4 X4 => ?_)
  refine w_if_eq (pc1 := 24) (pc2 := 7) X4 d8_4 (by decide) (fun (hc4 : (0 : Int32) = (0 : Int32)) => ?_) (fun (hc4 : (0 : Int32) ≠ (0 : Int32)) => absurd hc4 (by decide))
  refine w_aloadN (pc' := 25) X4 d8_24 rfl rfl rfl ?_
  refine w_getfield (pc' := 28) X4 F0 d8_25 (hw _ (List.mem_of_getElem? (i := 24) rfl)) Via.refl rfl (fun T5 X5 => ?_)
  refine w_iconst (pc' := 29) (z := (0 : Int32)) X5 d8_28 rfl rfl ?_
  refine w_baloadB (pc' := 30) (i := 0) (v := (.int (bb 0))) X5 A1 d8_29 rfl (by omega) rfl rfl ?_
  refine w_i2l (pc' := 31) X5 d8_30 rfl ?_
  refine w_lstoreN (pc' := 32) (L' := #[.val (.ref a), .val (.long (bb 0).toInt64), .second, .unset]) X5 d8_31 rfl rfl ?_
  refine w_iconst (pc' := 33) (z := (1 : Int32)) X5 d8_32 rfl rfl ?_
  refine w_istoreN (pc' := 34) (L' := #[.val (.ref a), .val (.long (bb 0).toInt64), .second, .val (.int (1 : Int32))]) X5 d8_33 rfl rfl ?_
  exact L34 (N - 1) 0 _ (by omega) X5
theorem pd_235 : parseMethodDescriptor "(JI)J" = some ⟨[.long, .int], some .long⟩ := by decide +kernel
theorem pd_236 : parseMethodDescriptor "(J)I" = some ⟨[.long], some .int⟩ := by decide +kernel
theorem pd_237 : parseMethodDescriptor "(J)Lcom/example/gnomic_keys/gnomickeys/codec/Value;" = some ⟨[.long], some (.object "com/example/gnomic_keys/gnomickeys/codec/Value")⟩ := by decide +kernel
theorem pd_238 : parseMethodDescriptor "()Z" = some ⟨[], some .boolean⟩ := by decide +kernel
theorem pd_239 : parseMethodDescriptor "()I" = some ⟨[], some .int⟩ := by decide +kernel
theorem pd_240 : parseMethodDescriptor "()J" = some ⟨[], some .long⟩ := by decide +kernel
theorem rm0_ef (m : MethodId) (v0 : Int64) (k0 : Int32) : entryFrame m #[(.long v0), (.int k0)] 7 = mkF m 0 #[.val (.long v0), .second, .val (.int k0), .unset, .unset, .unset, .unset] [] := by first | (simp [entryFrame, mkF, argsToLocals, Value.category]; done) | rfl
abbrev rm0_Q (Z : State) (v0 : Int64) (k0 : Int32) (h0 : Heap) (n0 : Nat) : Option Value → Heap → Prop := fun v h => v = some (.int 1)
set_option maxRecDepth 65536 in
set_option maxHeartbeats 40000000 in
theorem rm0 (l : Launch) (Z : State) (a0 : Array Value) (hw : ∀ d ∈ tables_1, d.before a0 Z = true) (ws : List Jvm.Cond) (v0 : Int64) (k0 : Int32) (h : Heap) (n0 : Nat) (hn0 : n0 ≤ h.size) :
    Ct l Z x code maxLocals ret ws room_1 #[(.long v0), (.int k0)] h n0 (rm0_Q Z v0 k0 h n0) := by
  refine Ct.of (plainFor_of_name pn_1) hn0 (fun m => rm0_ef m v0 k0) ?_
  intro p e s m below meth c T0 X0
  replace X0 : Sn Z n0 code 7 "com/example/gnomic_keys/gnomickeys/codec/ValueOfIntegerPinLaw" "law" (some .boolean) p l e room_1 s m #[(.long v0), (.int k0)] below meth c T0 h 0 0 := X0
  refine w_lloadN (pc' := 1) X0 at_0 rfl rfl ?_
  refine w_iloadN (pc' := 2) X0 at_1 rfl rfl ?_
  refine w_callS (pc' := 5) (wd := 0) (argsL := [(.long v0), (.int k0)]) (rest := []) (Q2 := (rm1_Q Z v0 k0 h n0)) X0 at_2 (hw _ (List.mem_of_getElem? (i := 0) rfl)) (hw _ (List.mem_of_getElem? (i := 1) rfl)) (hw _ (List.mem_of_getElem? (i := 2) rfl)) (hw _ (List.mem_of_getElem? (i := 3) rfl)) (by decide) (rm1 l Z a0 hw [] v0 k0 h n0 X0.size) pd_235 rfl rfl rfl (Nat.le_of_eq rfl) (by decide) (fun v1 T1 h1 X1 q1 => ?_)
  obtain ⟨xv, rfl, rfl⟩ := q1
  refine w_lstoreN (pc' := 6) (L' := #[.val (.long v0), .second, .val (.int k0), .val (.long xv), .second, .unset, .unset]) X1 at_5 rfl rfl ?_
  refine w_lloadN (pc' := 7) X1 at_6 rfl rfl ?_
  refine w_callS (pc' := 10) (wd := 0) (argsL := [(.long xv)]) (rest := []) (Q2 := (rm2_Q Z xv h n0)) X1 at_7 (hw _ (List.mem_of_getElem? (i := 4) rfl)) (hw _ (List.mem_of_getElem? (i := 5) rfl)) (hw _ (List.mem_of_getElem? (i := 2) rfl)) (hw _ (List.mem_of_getElem? (i := 6) rfl)) (by decide) (rm2 l Z a0 hw [] xv h n0 X1.size) pd_236 rfl rfl rfl (Nat.le_of_eq rfl) (by decide) (fun v2 T2 h2 X2 q2 => ?_)
  obtain ⟨rfl, rfl⟩ := q2
  refine w_istore (pc' := 12) (L' := #[.val (.long v0), .second, .val (.int k0), .val (.long xv), .second, .val (.int (Int32.ofNat (own_len xv))), .unset]) X2 at_10 rfl rfl ?_
  refine w_lloadN (pc' := 13) X2 at_12 rfl rfl ?_
  refine w_callS (pc' := 16) (wd := 0) (argsL := [(.long xv)]) (rest := []) (Q2 := (rm3_Q Z xv h n0)) X2 at_13 (hw _ (List.mem_of_getElem? (i := 9) rfl)) (hw _ (List.mem_of_getElem? (i := 10) rfl)) (hw _ (List.mem_of_getElem? (i := 11) rfl)) (hw _ (List.mem_of_getElem? (i := 12) rfl)) (by decide) (rm3 l Z a0 hw [] xv h n0 X2.size) pd_237 rfl rfl rfl (Nat.le_of_eq rfl) (by decide) (fun v3 T3 h3 X3 q3 => ?_)
  obtain ⟨ob, oa, rfl, Kc3, Eo, Ffo, Fbo, Aoa⟩ := q3
  refine w_astore (pc' := 18) (L' := #[.val (.long v0), .second, .val (.int k0), .val (.long xv), .second, .val (.int (Int32.ofNat (own_len xv))), .val (.ref ob)]) X3 at_16 rfl rfl rfl ?_
  refine w_aload (pc' := 20) X3 at_18 rfl rfl rfl ?_
  refine w_callV (pc' := 23) (wd := 0) (argsL := []) (rest := []) (Q2 := (rm6_Q Z ob h3 n0)) (a := ob) X3 Eo at_20 (hw _ (List.mem_of_getElem? (i := 26) rfl)) (hw _ (List.mem_of_getElem? (i := 27) rfl)) (hw _ (List.mem_of_getElem? (i := 29) rfl)) (hw _ (List.mem_of_getElem? (i := 28) rfl)) (hw _ (List.mem_of_getElem? (i := 11) rfl)) (hw _ (List.mem_of_getElem? (i := 30) rfl)) (by decide) (rm6 l Z a0 hw [] ob h3 n0 X3.size Ffo) pd_238 rfl rfl rfl (Nat.le_of_eq rfl) (by decide) (fun v4 T4 h4 X4 q4 => ?_)
  obtain ⟨rfl, rfl⟩ := q4
  refine w_if_ne (pc1 := 50) (pc2 := 26) X4 at_23 (by decide) (fun (hc23 : (0 : Int32) ≠ (0 : Int32)) => absurd hc23 (by decide)) (fun (hc23 : (0 : Int32) = (0 : Int32)) => ?_)
  refine w_aload (pc' := 28) X4 at_26 rfl rfl rfl ?_
  refine w_callV (pc' := 31) (wd := 0) (argsL := []) (rest := []) (Q2 := (rm7_Q Z ob oa (own_len xv) (fun j => .int (own_b (own_len xv) xv j)) h3 n0)) (a := ob) X4 Eo at_28 (hw _ (List.mem_of_getElem? (i := 31) rfl)) (hw _ (List.mem_of_getElem? (i := 32) rfl)) (hw _ (List.mem_of_getElem? (i := 34) rfl)) (hw _ (List.mem_of_getElem? (i := 33) rfl)) (hw _ (List.mem_of_getElem? (i := 11) rfl)) (hw _ (List.mem_of_getElem? (i := 35) rfl)) (by decide) (rm7 l Z a0 hw [] ob oa (own_len xv) (fun j => .int (own_b (own_len xv) xv j)) h3 n0 X4.size Fbo Aoa) pd_239 rfl rfl rfl (Nat.le_of_eq rfl) (by decide) (fun v5 T5 h5 X5 q5 => ?_)
  obtain ⟨rfl, rfl⟩ := q5
  refine w_iload (pc' := 33) X5 at_31 rfl rfl ?_
  refine w_icmp_ne (pc1 := 50) (pc2 := 36) X5 at_33 (by decide) (fun (hc33 : (Int32.ofNat (own_len xv)) ≠ (Int32.ofNat (own_len xv))) => absurd rfl hc33) (fun (hc33 : (Int32.ofNat (own_len xv)) = (Int32.ofNat (own_len xv))) => ?_)
  refine w_aload (pc' := 38) X5 at_36 rfl rfl rfl ?_
  refine w_callV (pc' := 41) (wd := 0) (argsL := []) (rest := []) (Q2 := (rm8_Q Z ob oa (own_len xv) (own_b (own_len xv) xv) h3 n0)) (a := ob) X5 Eo at_38 (hw _ (List.mem_of_getElem? (i := 36) rfl)) (hw _ (List.mem_of_getElem? (i := 37) rfl)) (hw _ (List.mem_of_getElem? (i := 39) rfl)) (hw _ (List.mem_of_getElem? (i := 38) rfl)) (hw _ (List.mem_of_getElem? (i := 11) rfl)) (hw _ (List.mem_of_getElem? (i := 40) rfl)) (by decide) (rm8 l Z a0 hw [] ob oa (own_len xv) (own_b (own_len xv) xv) h3 n0 X5.size Fbo Ffo Aoa (own_lb xv).1) pd_240 rfl rfl rfl (Nat.le_of_eq rfl) (by decide) (fun v6 T6 h6 X6 q6 => ?_)
  obtain ⟨rfl, rfl⟩ := q6
  refine w_lloadN (pc' := 42) X6 at_41 rfl rfl ?_
  refine w_lcif_ne (pc' := 43) (pc1 := 50) (pc2 := 46) X6 at_42 at_43 (by decide) (fun (hc43 : (own_acc (own_b (own_len xv) xv) (own_len xv - 1)) ≠ xv) => absurd (own_main xv) hc43) (fun (hc43 : (own_acc (own_b (own_len xv) xv) (own_len xv - 1)) = xv) => ?_)
  refine w_iconst (pc' := 47) (z := (1 : Int32)) X6 at_46 rfl rfl ?_
  refine w_goto (pc' := 51) X6 at_47 (by decide) ?_
  exact w_nreturn (t := .boolean) X6 at_51 rfl (by simp) (rfl)
set_option maxRecDepth 65536 in
set_option maxHeartbeats 40000000 in
theorem comes_1 {Post : Tables → Env → Array Value → State → Outcome → State → Prop} (hpost : ∀ tb e args s v u, (limb_1_1.after args s (.returned v) u = true ∧ limb_1_2.after args s (.returned v) u = true ∧ True) → FrameEnd s (.returned v) u (Jvm.fieldLocs frame_1_writes args s ++ Jvm.arrayLocs frame_1_arrays args s ++ Jvm.staticLocs frame_1_statics s) 16 128 → Post tb e args s (.returned v) u) :
    ArmFor flags0 classFile x code maxLocals ret World_1 tables_1 room_1 Calls_1 rest_1 Pre_1 Post := by
  intro l hfl _ _ p e ha hc hk s m args below hf hA hF happ hP
  obtain ⟨hcalls, hrest, hpre⟩ := hP
  obtain ⟨-, -, -, hnamed, -, -, -, hat⟩ := (Spec.applies_iff hf).mp happ
  obtain ⟨hg, hn⟩ := and_e (Cond.before_iff.mp (show (Jvm.Cond.and given_1 narrow_1).before args s = true from hpre))
  obtain ⟨ga0, gb0⟩ := and_e hg
  obtain ⟨ga1, gb1⟩ := and_e gb0
  obtain ⟨w0, w1, rfl⟩ : ∃ w0 w1 : Value, args = #[w0, w1] := by
    have hs : args.size = 2 := by simpa [Cond.value, given_1] using ga0
    obtain ⟨L⟩ := args
    match L, hs with
    | [w0, w1], _ => exact ⟨w0, w1, rfl⟩
  have hw := fun d (hd : d ∈ tables_1) => atoms_spec (ws := Jvm.Cond.code x code maxLocals ret :: tables_1) hat d (List.mem_cons_of_mem _ hd)
  obtain ⟨i0, ei0⟩ := isL_v ga1
  obtain rfl : w0 = (.long i0) := Option.some.inj ei0
  obtain ⟨i1, ei1⟩ := is_v gb1
  obtain rfl : w1 = (.int i1) := Option.some.inj ei1
  obtain ⟨n, o, h1, h2, h3, _, L, rfl, ⟨N, -, rfl⟩, hq⟩ := rm0 l s _ hw tables_1 i0 i1 s.heap s.heap.size (Nat.le_refl _) p e ha hc hk s m _ below hf ((Spec.applies_iff_loose hf).mp happ).1 ⟨rfl, State.Warmed39.refl s, rfl⟩ trivial
  refine ⟨n, _, h1, h2, h3, hpost _ _ _ _ _ _ ⟨Cond.after_iff.mpr rfl, Cond.after_iff.mpr (eq_i res_at (Term.int_eval (1)) rfl), trivial⟩ ⟨hq.1, hq.2.1, (hq.2.2.sift fun y hy => Or.inr (N y hy)).mono (by decide) (by decide)⟩⟩
theorem main_1_1 : Claimed_1_1 := comes_1 fun _ _ _ _ _ _ h hF => ⟨h.1, hF⟩
theorem main_1_2 : Claimed_1_2 := comes_1 fun _ _ _ _ _ _ h hF => ⟨h.2.1, hF⟩
end Jvm.Pilot.@@N@@
namespace Jvm.Pilot.@@N@@
open Jvm Jvm.ClassFile Sem Op Lib Jvm.Free Jvm.Stand Jvm.Pilot.@@N@@.Jvm.D
/-! MADE BY PROGRAM (witnessworld.py) out of the Statement's table words and the real class files: 9 classes; the members and pool entries that the words name. The judged class is class 1, her method 3. -/
namespace start1
open Jvm.ClassFile
def u (s : String) : CpInfo := .utf8 (stringToUtf16 s)
/-- a pool by its gaps: so many unusable entries, then the entry; so many at the end -/
def gap : Nat → List CpInfo → List CpInfo
  | 0, r => r
  | n + 1, r => .unusable :: gap n r
def poolList (es : List (Nat × CpInfo)) (last : Nat) : List CpInfo := es.foldr (fun e r => gap e.1 (e.2 :: r)) (gap last [])
def pool (es : List (Nat × CpInfo)) (last : Nat) : Array CpInfo := ⟨poolList es last⟩
def fileOf (pool : Array CpInfo) (this : Nat) (attrs : Array Attribute := #[]) (ms : Array MethodInfo := #[]) (fl : Nat := 33) (sup : Nat := 0) (ifs : Array Nat := #[]) (fds : Array FieldInfo := #[]) : ClassFile where
  minorVersion := 0
  majorVersion := 65
  constantPool := pool
  accessFlags := fl
  thisClass := this
  superClass := sup
  interfaces := ifs
  fields := fds
  methods := ms
  attributes := attrs
def plain (name : String) (sup : Option ClassId) : Class where
  name := name
  kind := .ordinary
  loader := none
  accessFlags := 33
  super := sup
  interfaces := #[]
  cf := none
  fields := #[]
  methods := #[]
  instanceTypes := #[]
  staticTypes := #[]
  resolved := #[]
  callSites := []
  init := .initialized
  statics := none
  mirror := none

def pool0 : Array CpInfo := pool [(5, u "<init>"), (0, u "()V"), (1, .class_ 10), (1, u "java/lang/Object")] 113

def k0c0 : Code := { maxStack := 0, maxLocals := 1, code := object_method_1_code, exceptionTable := #[], attributes := #[] }
def k0m0 : Method := { name := "<init>", desc := "()V", sig := { parameters := [], returnType := none }, accessFlags := 1, code := some k0c0 }
/-- java/lang/Object -/
def k0 : Class := { plain "java/lang/Object" none with
  accessFlags := 33
  interfaces := #[]
  cf := some (fileOf pool0 8 #[] #[{ accessFlags := 1, nameIndex := 5, descriptorIndex := 6, attributes := #[] }] 33 0 #[] #[])
  fields := #[]
  methods := #[k0m0]
  instanceTypes := #[]
  staticTypes := #[]
  resolved := Array.replicate 124 none
  statics := none }

def pool1 : Array CpInfo := pool [(2, .class_ 4), (1, u "java/lang/Object"), (0, u "<init>"), (0, u "()V"), (0, .long 128), (1, .long 3), (1, .long 2), (1, .long 32768), (1, .long 2147483648), (3, .long 9223372036854775807), (1, .long 18446744073709551488), (1, .long 127), (1, .long 18446744073709518848), (1, .long 32767), (1, .long 18446744071562067968), (1, .long 2147483647), (1, .methodref 34 35), (0, .class_ 36), (0, .nameAndType 37 38), (0, u "com/example/gnomic_keys/gnomickeys/codec/ValueOfIntegerPinLaw"), (0, u "pick"), (0, u "(JI)J"), (0, .methodref 34 40), (0, .nameAndType 41 42), (0, u "fewest"), (0, u "(J)I"), (0, .methodref 44 45), (0, .class_ 46), (0, .nameAndType 47 48), (0, u "com/example/gnomic_keys/gnomickeys/codec/Value"), (0, u "ofInteger"), (0, u "(J)Lcom/example/gnomic_keys/gnomickeys/codec/Value;"), (0, .methodref 44 50), (0, .nameAndType 51 52), (0, u "isFloatingPoint"), (0, u "()Z"), (0, .methodref 44 54), (0, .nameAndType 55 56), (0, u "length"), (0, u "()I"), (0, .methodref 44 58), (0, .nameAndType 59 60), (0, u "longValue"), (0, u "()J"), (3, u "law"), (0, u "(JI)Z")] 2

def k1m0 : Method := { name := "<init>", desc := "()V", sig := { parameters := [], returnType := none }, accessFlags := 2, code := none }
def k1c1 : Code := { maxStack := 6, maxLocals := 7, code := method_2_code, exceptionTable := #[], attributes := #[] }
def k1m1 : Method := { name := "pick", desc := "(JI)J", sig := { parameters := [.long, .int], returnType := some .long }, accessFlags := 10, code := some k1c1 }
def k1c2 : Code := { maxStack := 4, maxLocals := 2, code := method_3_code, exceptionTable := #[], attributes := #[] }
def k1m2 : Method := { name := "fewest", desc := "(J)I", sig := { parameters := [.long], returnType := some .int }, accessFlags := 10, code := some k1c2 }
def k1c3 : Code := { maxStack := 4, maxLocals := 7, code := code, exceptionTable := #[], attributes := #[] }
def k1m3 : Method := { name := "law", desc := "(JI)Z", sig := { parameters := [.long, .int], returnType := some .boolean }, accessFlags := 9, code := some k1c3 }
/-- com/example/gnomic_keys/gnomickeys/codec/ValueOfIntegerPinLaw -/
def k1 : Class := { plain "com/example/gnomic_keys/gnomickeys/codec/ValueOfIntegerPinLaw" (some 0) with
  accessFlags := 49
  interfaces := #[]
  cf := some (fileOf pool1 34 #[] #[{ accessFlags := 2, nameIndex := 5, descriptorIndex := 6, attributes := #[] }, { accessFlags := 10, nameIndex := 37, descriptorIndex := 38, attributes := #[] }, { accessFlags := 10, nameIndex := 41, descriptorIndex := 42, attributes := #[] }, { accessFlags := 9, nameIndex := 64, descriptorIndex := 65, attributes := #[] }] 49 2 #[] #[])
  fields := #[]
  methods := #[k1m0, k1m1, k1m2, k1m3]
  instanceTypes := #[]
  staticTypes := #[]
  resolved := Array.replicate 68 none
  statics := none }

def pool2 : Array CpInfo := pool [(1, .methodref 2 3), (0, .class_ 4), (0, .nameAndType 5 6), (0, u "java/lang/Object"), (0, u "<init>"), (0, u "()V"), (0, .fieldref 8 9), (0, .class_ 10), (0, .nameAndType 11 12), (0, u "com/example/gnomic_keys/gnomickeys/codec/Value"), (0, u "floatingPoint"), (0, u "Z"), (0, .fieldref 8 14), (0, .nameAndType 15 16), (0, u "bytes"), (0, u "[B"), (8, .methodref 8 26), (0, .nameAndType 5 27), (0, u "(Z[B)V"), (42, u "INTEGER"), (0, u "Ljava/util/regex/Pattern;"), (11, u "()Z"), (6, u "ofInteger"), (0, u "(J)Lcom/example/gnomic_keys/gnomickeys/codec/Value;"), (2, u "DECIMAL"), (10, .class_ 107), (1, u "com/example/gnomic_keys/gnomickeys/codec/Value$Precision"), (59, u "longValue"), (0, u "()J"), (69, u "isFloatingPoint"), (0, u "length"), (0, u "()I")] 31

def k2c0 : Code := { maxStack := 2, maxLocals := 3, code := prog_16_method_1_code, exceptionTable := #[], attributes := #[] }
def k2m0 : Method := { name := "<init>", desc := "(Z[B)V", sig := { parameters := [.boolean, (.array .byte)], returnType := none }, accessFlags := 2, code := some k2c0 }
def k2c1 : Code := { maxStack := 7, maxLocals := 5, code := prog_16_method_2_code, exceptionTable := #[], attributes := #[] }
def k2m1 : Method := { name := "ofInteger", desc := "(J)Lcom/example/gnomic_keys/gnomickeys/codec/Value;", sig := { parameters := [.long], returnType := some (.object "com/example/gnomic_keys/gnomickeys/codec/Value") }, accessFlags := 9, code := some k2c1 }
def k2c2 : Code := { maxStack := 1, maxLocals := 1, code := prog_16_method_7_code, exceptionTable := #[], attributes := #[] }
def k2m2 : Method := { name := "isFloatingPoint", desc := "()Z", sig := { parameters := [], returnType := some .boolean }, accessFlags := 1, code := some k2c2 }
def k2c3 : Code := { maxStack := 1, maxLocals := 1, code := prog_16_method_8_code, exceptionTable := #[], attributes := #[] }
def k2m3 : Method := { name := "length", desc := "()I", sig := { parameters := [], returnType := some .int }, accessFlags := 1, code := some k2c3 }
def k2c4 : Code := { maxStack := 4, maxLocals := 4, code := prog_16_method_10_code, exceptionTable := #[], attributes := #[] }
def k2m4 : Method := { name := "longValue", desc := "()J", sig := { parameters := [], returnType := some .long }, accessFlags := 1, code := some k2c4 }
/-- com/example/gnomic_keys/gnomickeys/codec/Value -/
def k2 : Class := { plain "com/example/gnomic_keys/gnomickeys/codec/Value" (some 0) with
  accessFlags := 33
  interfaces := #[]
  cf := some (fileOf pool2 8 #[.nestMembers #[105]] #[{ accessFlags := 2, nameIndex := 5, descriptorIndex := 27, attributes := #[] }, { accessFlags := 9, nameIndex := 90, descriptorIndex := 91, attributes := #[] }, { accessFlags := 1, nameIndex := 238, descriptorIndex := 83, attributes := #[] }, { accessFlags := 1, nameIndex := 239, descriptorIndex := 240, attributes := #[] }, { accessFlags := 1, nameIndex := 167, descriptorIndex := 168, attributes := #[] }] 33 2 #[] #[{ accessFlags := 26, nameIndex := 70, descriptorIndex := 71, attributes := #[] }, { accessFlags := 26, nameIndex := 94, descriptorIndex := 71, attributes := #[] }, { accessFlags := 18, nameIndex := 11, descriptorIndex := 12, attributes := #[] }, { accessFlags := 18, nameIndex := 15, descriptorIndex := 16, attributes := #[] }])
  fields := #[{ name := "INTEGER", type := (.object "java/util/regex/Pattern"), accessFlags := 26, slot := 0, constantValue := 0 }, { name := "DECIMAL", type := (.object "java/util/regex/Pattern"), accessFlags := 26, slot := 1, constantValue := 0 }, { name := "floatingPoint", type := .boolean, accessFlags := 18, slot := 0, constantValue := 0 }, { name := "bytes", type := (.array .byte), accessFlags := 18, slot := 1, constantValue := 0 }]
  methods := #[k2m0, k2m1, k2m2, k2m3, k2m4]
  instanceTypes := #[.boolean, (.array .byte)]
  staticTypes := #[(.object "java/util/regex/Pattern"), (.object "java/util/regex/Pattern")]
  resolved := Array.replicate 272 none
  statics := none }

def pool3 : Array CpInfo := pool [(1, u "java/lang/Cloneable"), (0, .class_ 1), (0, u "java/lang/Object"), (0, .class_ 3)] 3

/-- java/lang/Cloneable -/
def k3 : Class := { plain "java/lang/Cloneable" (some 0) with
  accessFlags := 1537
  interfaces := #[]
  cf := some (fileOf pool3 2 #[] #[] 1537 4 #[] #[])
  fields := #[]
  methods := #[]
  instanceTypes := #[]
  staticTypes := #[]
  resolved := Array.replicate 8 none
  statics := none }

def pool4 : Array CpInfo := pool [(1, u "java/io/Serializable"), (0, .class_ 1), (0, u "java/lang/Object"), (0, .class_ 3)] 3

/-- java/io/Serializable -/
def k4 : Class := { plain "java/io/Serializable" (some 0) with
  accessFlags := 1537
  interfaces := #[]
  cf := some (fileOf pool4 2 #[] #[] 1537 4 #[] #[])
  fields := #[]
  methods := #[]
  instanceTypes := #[]
  staticTypes := #[]
  resolved := Array.replicate 8 none
  statics := none }

/-- the primitive byte -/
def k5 : Class := { plain "byte" none with kind := .primitive 'B', accessFlags := 0x411 }
/-- [B -/
def k6 : Class := { plain "[B" (some 0) with kind := .array 5 .byte, interfaces := #[3, 4], accessFlags := 1041 }

/-- the primitive int -/
def k7 : Class := { plain "int" none with kind := .primitive 'I', accessFlags := 0x411 }
/-- [I -/
def k8 : Class := { plain "[I" (some 0) with kind := .array 7 .int, interfaces := #[3, 4], accessFlags := 1041 }

def heap : Heap := #[]
def classes : Array Class := #[k0, k1, k2, k3, k4, k5, k6, k7, k8]
def interned : List (Array UInt16 × Addr) := []
def slotsUsed : Nat := 0
def theMethod : MethodId := ⟨1, 3⟩
def args0 : Array Value := #[.long 5, .int 3]
def aboutOver (below : List Frame) : State where
  vm := { classes := classes, interned := interned.toArray }
  heap := heap
  slotsUsed := slotsUsed
  threads := #[{ frames := .invoking theMethod args0 :: below }]
def below0 : List Frame := [.native { method := ⟨0, 0⟩, args := #[] }]
def about1 : State := aboutOver below0
def p0 : Program := .bare "" "" ""
def e0 : Env := launch0.env 0 0 0
theorem w_frames : about1.frames = Frame.invoking theMethod args0 :: below0 := rfl
set_option maxRecDepth 65536 in
theorem w_args : argsFit about1.vm theMethod args0 = true := by decide +kernel
set_option maxRecDepth 65536 in
theorem w_heap : heapFits about1 = true := by decide +kernel
set_option maxRecDepth 65536 in
theorem w_runnable : about1.curStatus? = some .runnable := by decide +kernel
set_option maxRecDepth 65536 in
theorem w_alone : about1.alone = true := by decide +kernel
set_option maxRecDepth 65536 in
theorem w_named : about1.methodNamed? x = some theMethod := by decide +kernel
set_option maxRecDepth 65536 in
theorem w_hears : about1.hears theMethod below0 = true := by decide +kernel
set_option maxRecDepth 65536 in
theorem w_ripe : about1.ripe theMethod args0 below0 = true := by decide +kernel
theorem w_running : about1.status = .running := rfl
set_option maxRecDepth 65536 in
theorem w_room : about1.hasRoom e0.platform room_1 = true :=
  launch0.hasRoom_least _ room_1 (by decide +kernel) (by decide +kernel) (by decide +kernel) (by decide +kernel) (by decide +kernel) (by decide +kernel)
theorem allAtoms_all (ts : List Jvm.Cond) (a : Array Jvm.Value) (st : Jvm.State) : (allAtoms ts).before a st = ts.all (fun c => c.before a st) := by
  induction ts with
  | nil => rfl
  | cons c t ih =>
    show (Jvm.Cond.and c (allAtoms t)).before a st = _
    rw [Jvm.Cond.before_and, ih, List.all_cons]
def words1 : List Jvm.Cond := Jvm.Cond.code x code maxLocals ret :: tables_1
/-- a 'code' word, met by the world's own term for the bytes: nothing is compared byte by byte -/
theorem code_word {y : MethodName} {bytes : ByteArray} {mx : Nat} {rt : Option FieldType} {a : Array Value} {s : State} {m : MethodId} {meth : Method} {c : Code} (h1 : s.methodNamed? y = some m) (h2 : s.vm.method? m = some meth) (h3 : meth.code = some c) (h4 : c.code = bytes)
    (h5 : (c.maxLocals == mx && c.exceptionTable.isEmpty && decide (c.maxStack ≤ mostOperands) && decide (meth.sig.returnType = rt) && !meth.locks && decide (parseMethodDescriptor y.desc = some meth.sig)) = true) : (Jvm.Cond.code y bytes mx rt).before a s = true := by
  simp only [Bool.and_eq_true, beq_iff_eq, Bool.not_eq_true', decide_eq_true_eq] at h5
  obtain ⟨⟨⟨⟨⟨g1, g2⟩, g3⟩, g4⟩, g5⟩, g6⟩ := h5
  simp [Cond.before, Cond.holds, Cond.value, h1, h2, h3, h4, g1, g2, g3, g4, g5, g6]
def isCode : Jvm.Cond → Bool
  | .code _ _ _ _ => true
  | _ => false
theorem all_split {L : List Jvm.Cond} {P : Jvm.Cond → Bool} (h1 : L.all (fun c => isCode c || P c) = true) (h2 : ∀ c ∈ L.filter isCode, P c = true) : L.all P = true := by
  refine List.all_eq_true.mpr fun c hc => ?_
  have h := List.all_eq_true.mp h1 c hc
  rcases Bool.eq_false_or_eq_true (isCode c) with hi | hi
  · exact h2 c (List.mem_filter.mpr ⟨hc, hi⟩)
  · simpa [hi] using h
set_option maxRecDepth 65536 in
theorem w_c0 : (Jvm.Cond.code x code maxLocals ret).before args0 about1 = true := code_word (m := ⟨1, 3⟩) (meth := k1m3) (c := k1c3) (by decide +kernel) rfl rfl rfl (by decide +kernel)
set_option maxRecDepth 65536 in
theorem w_c1 : (Jvm.Cond.code ({ cls := "com/example/gnomic_keys/gnomickeys/codec/ValueOfIntegerPinLaw", name := "pick", desc := "(JI)J" } : Jvm.MethodName) method_2_code (7 : Nat) (Option.some Jvm.ClassFile.FieldType.long)).before args0 about1 = true := code_word (m := ⟨1, 1⟩) (meth := k1m1) (c := k1c1) (by decide +kernel) rfl rfl rfl (by decide +kernel)
set_option maxRecDepth 65536 in
theorem w_c2 : (Jvm.Cond.code ({ cls := "com/example/gnomic_keys/gnomickeys/codec/ValueOfIntegerPinLaw", name := "fewest", desc := "(J)I" } : Jvm.MethodName) method_3_code (2 : Nat) (Option.some Jvm.ClassFile.FieldType.int)).before args0 about1 = true := code_word (m := ⟨1, 2⟩) (meth := k1m2) (c := k1c2) (by decide +kernel) rfl rfl rfl (by decide +kernel)
set_option maxRecDepth 65536 in
theorem w_c3 : (Jvm.Cond.code ({ cls := "com/example/gnomic_keys/gnomickeys/codec/Value", name := "ofInteger", desc := "(J)Lcom/example/gnomic_keys/gnomickeys/codec/Value;" } : Jvm.MethodName) prog_16_method_2_code (5 : Nat) (Option.some (Jvm.ClassFile.FieldType.object "com/example/gnomic_keys/gnomickeys/codec/Value"))).before args0 about1 = true := code_word (m := ⟨2, 1⟩) (meth := k2m1) (c := k2c1) (by decide +kernel) rfl rfl rfl (by decide +kernel)
set_option maxRecDepth 65536 in
theorem w_c4 : (Jvm.Cond.code ({ cls := "com/example/gnomic_keys/gnomickeys/codec/Value", name := "<init>", desc := "(Z[B)V" } : Jvm.MethodName) prog_16_method_1_code (3 : Nat) (Option.none : Option Jvm.ClassFile.FieldType)).before args0 about1 = true := code_word (m := ⟨2, 0⟩) (meth := k2m0) (c := k2c0) (by decide +kernel) rfl rfl rfl (by decide +kernel)
set_option maxRecDepth 65536 in
theorem w_c5 : (Jvm.Cond.code ({ cls := "java/lang/Object", name := "<init>", desc := "()V" } : Jvm.MethodName) object_method_1_code (1 : Nat) (Option.none : Option Jvm.ClassFile.FieldType)).before args0 about1 = true := code_word (m := ⟨0, 0⟩) (meth := k0m0) (c := k0c0) (by decide +kernel) rfl rfl rfl (by decide +kernel)
set_option maxRecDepth 65536 in
theorem w_c6 : (Jvm.Cond.code ({ cls := "com/example/gnomic_keys/gnomickeys/codec/Value", name := "isFloatingPoint", desc := "()Z" } : Jvm.MethodName) prog_16_method_7_code (1 : Nat) (Option.some Jvm.ClassFile.FieldType.boolean)).before args0 about1 = true := code_word (m := ⟨2, 2⟩) (meth := k2m2) (c := k2c2) (by decide +kernel) rfl rfl rfl (by decide +kernel)
set_option maxRecDepth 65536 in
theorem w_c7 : (Jvm.Cond.code ({ cls := "com/example/gnomic_keys/gnomickeys/codec/Value", name := "length", desc := "()I" } : Jvm.MethodName) prog_16_method_8_code (1 : Nat) (Option.some Jvm.ClassFile.FieldType.int)).before args0 about1 = true := code_word (m := ⟨2, 3⟩) (meth := k2m3) (c := k2c3) (by decide +kernel) rfl rfl rfl (by decide +kernel)
set_option maxRecDepth 65536 in
theorem w_c8 : (Jvm.Cond.code ({ cls := "com/example/gnomic_keys/gnomickeys/codec/Value", name := "longValue", desc := "()J" } : Jvm.MethodName) prog_16_method_10_code (4 : Nat) (Option.some Jvm.ClassFile.FieldType.long)).before args0 about1 = true := code_word (m := ⟨2, 4⟩) (meth := k2m4) (c := k2c4) (by decide +kernel) rfl rfl rfl (by decide +kernel)
def codes1 : List Jvm.Cond := [Jvm.Cond.code x code maxLocals ret, Jvm.Cond.code ({ cls := "com/example/gnomic_keys/gnomickeys/codec/ValueOfIntegerPinLaw", name := "pick", desc := "(JI)J" } : Jvm.MethodName) method_2_code (7 : Nat) (Option.some Jvm.ClassFile.FieldType.long), Jvm.Cond.code ({ cls := "com/example/gnomic_keys/gnomickeys/codec/ValueOfIntegerPinLaw", name := "fewest", desc := "(J)I" } : Jvm.MethodName) method_3_code (2 : Nat) (Option.some Jvm.ClassFile.FieldType.int), Jvm.Cond.code ({ cls := "com/example/gnomic_keys/gnomickeys/codec/Value", name := "ofInteger", desc := "(J)Lcom/example/gnomic_keys/gnomickeys/codec/Value;" } : Jvm.MethodName) prog_16_method_2_code (5 : Nat) (Option.some (Jvm.ClassFile.FieldType.object "com/example/gnomic_keys/gnomickeys/codec/Value")), Jvm.Cond.code ({ cls := "com/example/gnomic_keys/gnomickeys/codec/Value", name := "<init>", desc := "(Z[B)V" } : Jvm.MethodName) prog_16_method_1_code (3 : Nat) (Option.none : Option Jvm.ClassFile.FieldType), Jvm.Cond.code ({ cls := "java/lang/Object", name := "<init>", desc := "()V" } : Jvm.MethodName) object_method_1_code (1 : Nat) (Option.none : Option Jvm.ClassFile.FieldType), Jvm.Cond.code ({ cls := "com/example/gnomic_keys/gnomickeys/codec/Value", name := "isFloatingPoint", desc := "()Z" } : Jvm.MethodName) prog_16_method_7_code (1 : Nat) (Option.some Jvm.ClassFile.FieldType.boolean), Jvm.Cond.code ({ cls := "com/example/gnomic_keys/gnomickeys/codec/Value", name := "length", desc := "()I" } : Jvm.MethodName) prog_16_method_8_code (1 : Nat) (Option.some Jvm.ClassFile.FieldType.int), Jvm.Cond.code ({ cls := "com/example/gnomic_keys/gnomickeys/codec/Value", name := "longValue", desc := "()J" } : Jvm.MethodName) prog_16_method_10_code (4 : Nat) (Option.some Jvm.ClassFile.FieldType.long)]
set_option maxRecDepth 65536 in
theorem codes_eq : words1.filter isCode = codes1 := rfl
theorem w_codes : ∀ c ∈ words1.filter isCode, c.before args0 about1 = true := by
  rw [codes_eq]
  intro c hc
  simp only [codes1, List.mem_cons, List.not_mem_nil, or_false] at hc
  rcases hc with rfl | rfl | rfl | rfl | rfl | rfl | rfl | rfl | rfl
  · exact w_c0
  · exact w_c1
  · exact w_c2
  · exact w_c3
  · exact w_c4
  · exact w_c5
  · exact w_c6
  · exact w_c7
  · exact w_c8
set_option maxRecDepth 65536 in
theorem w_t1 : (words1.take 24).all (fun c => isCode c || c.before args0 about1) = true := by decide +kernel
set_option maxRecDepth 65536 in
theorem w_t2 : ((words1.drop 24).take 24).all (fun c => isCode c || c.before args0 about1) = true := by decide +kernel
set_option maxRecDepth 65536 in
theorem w_t3 : ((words1.drop 24).drop 24).all (fun c => isCode c || c.before args0 about1) = true := by decide +kernel
theorem w_tables : (allAtoms (Jvm.Cond.code x code maxLocals ret :: tables_1)).before args0 about1 = true := by
  rw [allAtoms_all]
  show words1.all (fun c => c.before args0 about1) = true
  refine all_split ?_ w_codes
  rw [← List.take_append_drop 24 words1, List.all_append, w_t1, ← List.take_append_drop 24 (words1.drop 24), List.all_append, w_t2, w_t3]
  rfl
set_option maxRecDepth 65536 in
theorem w_case : (Jvm.Cond.and given_1 narrow_1).before args0 about1 = true := by decide +kernel
theorem w_applies : (headSpec (Jvm.Cond.code x code maxLocals ret :: tables_1) room_1).applies x e0.platform about1 = true :=
  (Spec.applies_iff w_frames).mpr ⟨w_running, w_runnable, w_alone, w_named, w_hears, w_ripe, w_room, w_tables⟩
theorem atStart : AtStart classFile x code maxLocals ret World_1 tables_1 room_1 Calls_1 rest_1 Pre_1 launch0 p0 e0 about1 theMethod args0 below0 :=
  ⟨lists_1, trivial, launch0.admits_env _ _ _, launch0.least_env, fairChoices_fair.cas, fairChoices_fair.clock, w_frames, w_args, w_heap, w_applies, trivial, trivial, w_case⟩
end start1
theorem witness_1 : WitnessClaimed_1 := ⟨start1.p0, start1.e0, start1.about1, start1.theMethod, start1.args0, start1.below0, start1.atStart⟩
end Jvm.Pilot.@@N@@
