import JvmDerived
import JvmDerived.Pilot.@@N@@Statement
import JvmDerived.Pilot.@@N@@Code
set_option linter.unusedVariables false
set_option linter.unusedSimpArgs false
@@BLOCK:NumsL.lean.txt@@
namespace Jvm.OwnW
open Jvm Jvm.ClassFile Sem Op Lib Jvm.Free Jvm.Stand Jvm.LawKit Jvm.RoadKit
/-! what is left to be shown, and where the run stands -/
def Qc (n0 : Nat) (Q : Option Value → Heap → Prop) (v : Option Value) (h : Heap) (L : List Loc) : Prop := Fr n0 L ∧ n0 ≤ h.size ∧ Q v h
def W (p : Program) (e : Env) (below : List Frame) (s : State) (R : Room) (n0 : Nat) (Q : Option Value → Heap → Prop) (S0 : State) : Prop :=
  ∃ s₂ o, Steps p.tables e below S0 s₂ ∧ s₂.status = .running ∧ Ended s₂ below o ∧ ∃ v L, o = .returned v ∧ Qc n0 Q v s₂.heap L ∧ FrameEnd s o s₂ L R.cells R.slots
def Sn (Z : State) (n0 : Nat) (bs : ByteArray) (mx : Nat) (own nm : String) (ret : Option FieldType) (p : Program) (l : Launch) (e : Env) (R : Room) (s : State) (m : MethodId) (args : Array Value) (below : List Frame) (meth : Method) (c : Code) (T : State) (h : Heap) (cells slots : Nat) : Prop :=
  ∃ locs, Stand p l e R s m args below meth c T locs cells slots ∧ T.heap = h ∧ Fr n0 locs ∧ n0 ≤ h.size ∧ cells ≤ R.cells ∧ slots ≤ R.slots ∧ p.tables.exec = Jvm.exec ∧ Z.Warmed39 s.vm ∧ c.code = bs ∧ c.maxLocals = mx ∧ s.vm.findClass own = some m.cls ∧ meth.name = nm ∧ meth.sig.returnType = ret ∧ meth.locks = false
def Ct (l : Launch) (Z : State) (y : MethodName) (bs : ByteArray) (mx : Nat) (ret : Option FieldType) (ws : List Jvm.Cond) (R : Room) (as' : Array Value) (h : Heap) (n0 : Nat) (Q : Option Value → Heap → Prop) : Prop :=
  MetFree l y (head1 (Cond.code y bs mx ret :: ws) R) (fun a U => a = as' ∧ Z.Warmed39 U.vm ∧ U.heap = h) (fun _ _ _ _ _ => True) (fun _ U o U' => ∃ v L, o = .returned v ∧ Qc n0 Q v U'.heap L ∧ FrameEnd U o U' L R.cells R.slots)
theorem Ct.of {l : Launch} {Z : State} {y : MethodName} {bs : ByteArray} {mx : Nat} {ret : Option FieldType} {ws : List Jvm.Cond} {R : Room} {as' : Array Value} {h : Heap} {n0 : Nat} {Q : Option Value → Heap → Prop} {Ls : Array Slot}
    (hp : plainFor y = true) (hn : n0 ≤ h.size) (he : ∀ m, entryFrame m as' mx = mkF m 0 Ls [])
    (body : ∀ p e s m below meth c T, Sn Z n0 bs mx y.cls y.name ret p l e R s m as' below meth c T h 0 0 → W p e below s R n0 Q (T.setTop (mkF m 0 Ls []))) : Ct l Z y bs mx ret ws R as' h n0 Q := by
  refine MetFree.of_bodySF hp hisR ?_
  intro p e s m args below meth c s₁ Bd hml0 hP hK
  obtain ⟨rfl, hZ, hh⟩ := hP
  have X0 : Stand p l e R s m args below meth c s₁ [] 0 0 := Stand.of_body Bd
  have e0 : s₁.heap = h := by rw [← hh, Bd.state]; rfl
  obtain ⟨s2, o, st, r⟩ := body p e s m below meth c s₁ ⟨[], X0, e0, Fr.nil n0, hn, Nat.zero_le _, Nat.zero_le _, Bd.exec, hZ, Bd.bytes, hml0, findClass_of_methodNamed Bd.named, (name_of_methodNamed Bd.named Bd.method).1, Bd.returns, Bd.notSynchronized⟩
  exact ⟨s2, o, castTop (he m) st, r⟩
/-! the shifts, by names -/
def lus (x : Int64) (y : Int32) : Int64 := (x.toUInt64 >>> (y &&& 0x3f).toInt64.toUInt64).toInt64
def lsl (x : Int64) (y : Int32) : Int64 := x <<< (y &&& 0x3f).toInt64
def lsr (x : Int64) (y : Int32) : Int64 := x >>> (y &&& 0x3f).toInt64
def ius (x : Int32) (y : Int32) : Int32 := (x.toUInt32 >>> (y &&& 31).toUInt32).toInt32
def isl (x : Int32) (y : Int32) : Int32 := x <<< (y &&& 31)
def isr (x : Int32) (y : Int32) : Int32 := x >>> (y &&& 31)
theorem sh_u : ∀ k : Nat, k < 64 → ((Int32.ofNat k &&& 0x3f).toInt64.toUInt64.toBitVec % 64).toNat = k := by decide +kernel
theorem sh_s : ∀ k : Nat, k < 64 → ((Int32.ofNat k &&& 0x3f).toInt64.toBitVec.smod 64).toNat = k := by decide +kernel
theorem sh_u32 : ∀ k : Nat, k < 32 → ((Int32.ofNat k &&& 31).toUInt32.toBitVec % 32).toNat = k := by decide +kernel
theorem sh_s32 : ∀ k : Nat, k < 32 → ((Int32.ofNat k &&& 31).toBitVec.smod 32).toNat = k := by decide +kernel
theorem lusB (x : Int64) {k : Nat} (hk : k < 64) : (lus x (Int32.ofNat k)).toBitVec = x.toBitVec >>> k := by
  show (x.toUInt64 >>> (Int32.ofNat k &&& 0x3f).toInt64.toUInt64).toBitVec = _
  rw [UInt64.toBitVec_shiftRight, BitVec.ushiftRight_eq', sh_u k hk]; rfl
theorem lslB (x : Int64) {k : Nat} (hk : k < 64) : (lsl x (Int32.ofNat k)).toBitVec = x.toBitVec <<< k := by
  unfold lsl
  rw [Int64.toBitVec_shiftLeft, BitVec.shiftLeft_eq', sh_s k hk]
theorem lsrB (x : Int64) {k : Nat} (hk : k < 64) : (lsr x (Int32.ofNat k)).toBitVec = x.toBitVec.sshiftRight k := by
  unfold lsr
  rw [Int64.toBitVec_shiftRight, BitVec.sshiftRight_eq', sh_s k hk]
theorem iusB (x : Int32) {k : Nat} (hk : k < 32) : (ius x (Int32.ofNat k)).toBitVec = x.toBitVec >>> k := by
  show (x.toUInt32 >>> (Int32.ofNat k &&& 31).toUInt32).toBitVec = _
  rw [UInt32.toBitVec_shiftRight, BitVec.ushiftRight_eq', sh_u32 k hk]; rfl
theorem isrB (x : Int32) {k : Nat} (hk : k < 32) : (isr x (Int32.ofNat k)).toBitVec = x.toBitVec.sshiftRight k := by
  unfold isr
  rw [Int32.toBitVec_shiftRight, BitVec.sshiftRight_eq', sh_s32 k hk]
/-- the long read without its sign -/
def un (x : Int64) : Nat := x.toBitVec.toNat
theorem un_inj {x y : Int64} (h : un x = un y) : x = y := Int64.toBitVec_inj.mp (BitVec.eq_of_toNat_eq h)
theorem un_lt (x : Int64) : un x < 2 ^ 64 := x.toBitVec.isLt
theorem un_of_nonneg {x : Int64} (h : 0 ≤ x.toInt) : (un x : Int) = x.toInt ∧ un x < 2 ^ 63 := by
  have e : x.toInt = if 2 * un x < 2 ^ 64 then (un x : Int) else (un x : Int) - ((2 ^ 64 : Nat) : Int) := BitVec.toInt_eq_toNat_cond _
  have l := un_lt x
  by_cases q : 2 * un x < 2 ^ 64
  · rw [if_pos q] at e; omega
  · rw [if_neg q] at e; omega
theorem un_lus (x : Int64) {k : Nat} (hk : k < 64) : un (lus x (Int32.ofNat k)) = un x / 2 ^ k := by
  unfold un; rw [lusB x hk, BitVec.toNat_ushiftRight, Nat.shiftRight_eq_div_pow]
theorem un_lsl (x : Int64) {k : Nat} (hk : k < 64) : un (lsl x (Int32.ofNat k)) = un x * 2 ^ k % 2 ^ 64 := by
  unfold un; rw [lslB x hk, BitVec.toNat_shiftLeft, Nat.shiftLeft_eq]
theorem un_or (x y : Int64) : un (x ||| y) = un x ||| un y := by
  unfold un; rw [Int64.toBitVec_or, BitVec.toNat_or]
theorem un_and (x y : Int64) : un (x &&& y) = un x &&& un y := by
  unfold un; rw [Int64.toBitVec_and, BitVec.toNat_and]
theorem un_mask (x m : Int64) {k : Nat} (hm : un m = 2 ^ k - 1) : un (x &&& m) = un x % 2 ^ k := by
  rw [un_and, hm, Nat.and_two_pow_sub_one_eq_mod]
theorem toInt_of_un {x : Int64} (h : un x < 2 ^ 63) : x.toInt = un x := by
  have e : x.toInt = x.toBitVec.toInt := rfl
  rw [e, BitVec.toInt_eq_toNat_cond]
  unfold un at *
  rw [if_pos (by omega)]
theorem lus_nonneg {x : Int64} (h : 0 ≤ x.toInt) {k : Nat} (hk : k < 64) : (lus x (Int32.ofNat k)).toInt = x.toInt / 2 ^ k := by
  have h1 := un_of_nonneg h
  have h2 := un_lus x hk
  have h3 : un x / 2 ^ k ≤ un x := Nat.div_le_self _ _
  rw [toInt_of_un (by omega), h2, ← h1.1]; simp
theorem byteN : ∀ b : BitVec 8, ((Int8.ofBitVec b).toInt32.toInt8.toInt32 &&& 255).toInt64.toBitVec.toNat = b.toNat := by decide +kernel
theorem byteU (v : Int64) : un ((v.toInt32.toInt8.toInt32.toInt8.toInt32 &&& 255).toInt64) = un v % 256 := by
  have e : (v.toInt32.toInt8).toBitVec.toNat = un v % 256 := by
    show ((v.toBitVec.signExtend 32).signExtend 8).toNat = _
    rw [BitVec.signExtend_eq_setWidth_of_le _ (by decide), BitVec.signExtend_eq_setWidth_of_le _ (by decide), BitVec.toNat_setWidth, BitVec.toNat_setWidth]
    unfold un; omega
  have h := byteN v.toInt32.toInt8.toBitVec
  rw [e] at h
  exact h
theorem catU {a c : Int64} {k : Nat} (hk : k < 64) (ha : un a * 2 ^ k < 2 ^ 64) (hc : un c < 2 ^ k) : un (lsl a (Int32.ofNat k) ||| c) = un a * 2 ^ k + un c := by
  rw [un_or, un_lsl a hk, Nat.mod_eq_of_lt ha, ← Nat.shiftLeft_eq, Nat.shiftLeft_add_eq_or_of_lt hc]
/-! an array: its kind, its length, what each place holds -/
def AF (Z : State) (h : Heap) (a : Addr) (ty : FieldType) (n : Nat) (f : Nat → Value) : Prop := ∃ c : Cell, Arr Z h a c ty ∧ c.slots.size = n ∧ n < 2 ^ 31 ∧ ∀ j, j < n → c.slots[j]? = some (f j)
def up (f : Nat → Value) (i : Nat) (v : Value) : Nat → Value := fun j => if j = i then v else f j
section
variable {Z : State} {h h' h0 : Heap} {a b : Addr} {ty : FieldType} {n i sl : Nat} {f g : Nat → Value} {v : Value} {ws : List Addr}
theorem AF.lt (F : AF Z h a ty n f) : a < h.size := by obtain ⟨c, A, -⟩ := F; exact A.lt
theorem AF.len (F : AF Z h a ty n f) : n < 2 ^ 31 := by obtain ⟨c, -, -, q, -⟩ := F; exact q
theorem AF.ext (F : AF Z h a ty n f) (E : Ext h h') : AF Z h' a ty n f := by obtain ⟨c, A, r⟩ := F; exact ⟨c, A.ext E, r⟩
theorem AF.other (F : AF Z h b ty n f) (W : Wr h h' a sl v) (q : b ≠ a) : AF Z h' b ty n f := by obtain ⟨c, A, r⟩ := F; exact ⟨c, A.other W q, r⟩
theorem AF.keep (F : AF Z h a ty n f) (K : Keep h h' ws) (q : a ∉ ws) : AF Z h' a ty n f := by obtain ⟨c, A, r⟩ := F; exact ⟨c, ⟨K.2.1 a c A.1 q, A.2⟩, r⟩
theorem AF.congr (F : AF Z h a ty n f) (q : ∀ j, j < n → f j = g j) : AF Z h a ty n g := by obtain ⟨c, A, r1, r2, r3⟩ := F; exact ⟨c, A, r1, r2, fun j hj => by rw [← q j hj]; exact r3 j hj⟩
theorem AF.set (F : AF Z h a ty n f) (W : Wr h h' a i v) : AF Z h' a ty n (up f i v) := by
  obtain ⟨c, A, r1, r2, r3⟩ := F
  refine ⟨_, A.same W, by rw [sz_set]; exact r1, r2, fun j hj => ?_⟩
  by_cases u : j = i
  · subst u; simp [Cell.setSlot, up, r1, hj]
  · simp only [Cell.setSlot, up, u, if_false]; rw [Array.getElem?_setIfInBounds_ne (Ne.symm u)]; exact r3 j hj
theorem AF.new {k : ClassId} {z : Int32} (A : Arr Z h a (newA k ty z) ty) (q : z.toInt = n) : AF Z h a ty n (fun _ => defaultValue ty) := by
  have := Int32.toInt_lt z
  refine ⟨_, A, by rw [sz_new]; simp only [Int32.toNatClampNeg]; omega, by omega, fun j hj => ?_⟩
  have : j < z.toNatClampNeg := by simp only [Int32.toNatClampNeg]; omega
  simp [newA, this]
theorem up_eq {j : Nat} (q : j = i) : up f i v j = v := if_pos q
theorem up_ne {j : Nat} (q : j ≠ i) : up f i v j = f j := if_neg q
theorem ne_size (q : b = h.size) (r : a < h.size) : a ≠ b := by subst q; exact Nat.ne_of_lt r
theorem Keep.app (K : Keep h0 h ws) (K' : Keep h h' ws) : Keep h0 h' ws := K.trans K' fun x hx => Or.inl hx
end
section
variable {p : Program} {l : Launch} {e : Env} {R : Room} {s : State} {m : MethodId} {args : Array Value} {below : List Frame} {meth : Method} {c : Code} {Z : State} {a0 : Array Value} {n0 : Nat} {bs : ByteArray} {mx : Nat} {own nm : String} {ret : Option FieldType} {T : State} {h : Heap} {cells slots : Nat} {Q : Option Value → Heap → Prop} {pc pc' pc1 pc2 k : Nat} {Ls L' : Array Slot} {st : List Value} {o : Int}
theorem W.of {S0 S1 : State} (q : ∀ t, Steps p.tables e below S1 t → Steps p.tables e below S0 t) (w : W p e below s R n0 Q S1) : W p e below s R n0 Q S0 := by
  obtain ⟨s2, o, st, r⟩ := w; exact ⟨s2, o, q _ st, r⟩
theorem W.fwd {S0 S1 : State} (q : Steps p.tables e below S0 S1) (w : W p e below s R n0 Q S1) : W p e below s R n0 Q S0 := W.of (fun _ k => q.trans k) w
theorem w_topI {x x' : Int32} (q : x = x') (w : W p e below s R n0 Q (T.setTop (mkF m pc Ls (.int x' :: st)))) : W p e below s R n0 Q (T.setTop (mkF m pc Ls (.int x :: st))) := by rw [q]; exact w
theorem w_topJ {x x' : Int64} (q : x = x') (w : W p e below s R n0 Q (T.setTop (mkF m pc Ls (.long x' :: st)))) : W p e below s R n0 Q (T.setTop (mkF m pc Ls (.long x :: st))) := by rw [q]; exact w
theorem Sn.size (X : Sn Z n0 bs mx own nm ret p l e R s m args below meth c T h cells slots) : n0 ≤ h.size := by obtain ⟨_, _, _, _, q, _⟩ := X; exact q
theorem Sn.more (X : Sn Z n0 bs mx own nm ret p l e R s m args below meth c T h cells slots) {cells' slots' : Nat} (q : cells ≤ cells' ∧ slots ≤ slots' ∧ cells' ≤ R.cells ∧ slots' ≤ R.slots) : Sn Z n0 bs mx own nm ret p l e R s m args below meth c T h cells' slots' := by
  obtain ⟨locs, X, r1, r2, r3, -, -, r⟩ := X; exact ⟨locs, X.more q.1 q.2.1, r1, r2, r3, q.2.2.1, q.2.2.2, r⟩
theorem w_iload (X : Sn Z n0 bs mx own nm ret p l e R s m args below meth c T h cells slots) {v : Int32} (hd : decode bs pc = .ok (.iload k, 2)) (hl : Ls[k]? = some (.val (.int v))) (hp : pc + 2 = pc')
    (w : W p e below s R n0 Q (T.setTop (mkF m pc' Ls (.int v :: st)))) : W p e below s R n0 Q (T.setTop (mkF m pc Ls (st))) := by
  obtain ⟨locs, X, eT, N, hs0, hcl, hsl, hx, hZ, rfl, hml, hown, hnm, hret, hlk⟩ := X
  subst hp
  exact W.of (fun t k => XS.iload X.here hx rfl hd hl k) w
theorem w_iloadN (X : Sn Z n0 bs mx own nm ret p l e R s m args below meth c T h cells slots) {v : Int32} {q : Fin 4} (hd : decode bs pc = .ok (.iload_n q, 1)) (hl : Ls[q.val]? = some (.val (.int v))) (hp : pc + 1 = pc')
    (w : W p e below s R n0 Q (T.setTop (mkF m pc' Ls (.int v :: st)))) : W p e below s R n0 Q (T.setTop (mkF m pc Ls (st))) := by
  obtain ⟨locs, X, eT, N, hs0, hcl, hsl, hx, hZ, rfl, hml, hown, hnm, hret, hlk⟩ := X
  subst hp
  exact W.of (fun t k => XS.iloadN X.here hx rfl hd hl k) w
theorem w_istore (X : Sn Z n0 bs mx own nm ret p l e R s m args below meth c T h cells slots) {v : Int32} (hd : decode bs pc = .ok (.istore k, 2)) (hl : storeLocals Ls k (.int v) = some L') (hp : pc + 2 = pc')
    (w : W p e below s R n0 Q (T.setTop (mkF m pc' L' (st)))) : W p e below s R n0 Q (T.setTop (mkF m pc Ls (.int v :: st))) := by
  obtain ⟨locs, X, eT, N, hs0, hcl, hsl, hx, hZ, rfl, hml, hown, hnm, hret, hlk⟩ := X
  subst hp
  exact W.of (fun t k => XS.istore X.here hx rfl hd rfl hl k) w
theorem w_istoreN (X : Sn Z n0 bs mx own nm ret p l e R s m args below meth c T h cells slots) {v : Int32} {q : Fin 4} (hd : decode bs pc = .ok (.istore_n q, 1)) (hl : storeLocals Ls q.val (.int v) = some L') (hp : pc + 1 = pc')
    (w : W p e below s R n0 Q (T.setTop (mkF m pc' L' (st)))) : W p e below s R n0 Q (T.setTop (mkF m pc Ls (.int v :: st))) := by
  obtain ⟨locs, X, eT, N, hs0, hcl, hsl, hx, hZ, rfl, hml, hown, hnm, hret, hlk⟩ := X
  subst hp
  exact W.of (fun t k => XS.istoreN X.here hx rfl hd rfl hl k) w
theorem w_lload (X : Sn Z n0 bs mx own nm ret p l e R s m args below meth c T h cells slots) {v : Int64} (hd : decode bs pc = .ok (.lload k, 2)) (hl : Ls[k]? = some (.val (.long v))) (hp : pc + 2 = pc')
    (w : W p e below s R n0 Q (T.setTop (mkF m pc' Ls (.long v :: st)))) : W p e below s R n0 Q (T.setTop (mkF m pc Ls (st))) := by
  obtain ⟨locs, X, eT, N, hs0, hcl, hsl, hx, hZ, rfl, hml, hown, hnm, hret, hlk⟩ := X
  subst hp
  exact W.of (fun t k => XS.lload X.here hx rfl hd hl k) w
theorem w_lloadN (X : Sn Z n0 bs mx own nm ret p l e R s m args below meth c T h cells slots) {v : Int64} {q : Fin 4} (hd : decode bs pc = .ok (.lload_n q, 1)) (hl : Ls[q.val]? = some (.val (.long v))) (hp : pc + 1 = pc')
    (w : W p e below s R n0 Q (T.setTop (mkF m pc' Ls (.long v :: st)))) : W p e below s R n0 Q (T.setTop (mkF m pc Ls (st))) := by
  obtain ⟨locs, X, eT, N, hs0, hcl, hsl, hx, hZ, rfl, hml, hown, hnm, hret, hlk⟩ := X
  subst hp
  exact W.of (fun t k => XS.lloadN X.here hx rfl hd hl k) w
theorem w_lstore (X : Sn Z n0 bs mx own nm ret p l e R s m args below meth c T h cells slots) {v : Int64} (hd : decode bs pc = .ok (.lstore k, 2)) (hl : storeLocals Ls k (.long v) = some L') (hp : pc + 2 = pc')
    (w : W p e below s R n0 Q (T.setTop (mkF m pc' L' (st)))) : W p e below s R n0 Q (T.setTop (mkF m pc Ls (.long v :: st))) := by
  obtain ⟨locs, X, eT, N, hs0, hcl, hsl, hx, hZ, rfl, hml, hown, hnm, hret, hlk⟩ := X
  subst hp
  exact W.of (fun t k => XS.lstore X.here hx rfl hd rfl hl k) w
theorem w_lstoreN (X : Sn Z n0 bs mx own nm ret p l e R s m args below meth c T h cells slots) {v : Int64} {q : Fin 4} (hd : decode bs pc = .ok (.lstore_n q, 1)) (hl : storeLocals Ls q.val (.long v) = some L') (hp : pc + 1 = pc')
    (w : W p e below s R n0 Q (T.setTop (mkF m pc' L' (st)))) : W p e below s R n0 Q (T.setTop (mkF m pc Ls (.long v :: st))) := by
  obtain ⟨locs, X, eT, N, hs0, hcl, hsl, hx, hZ, rfl, hml, hown, hnm, hret, hlk⟩ := X
  subst hp
  exact W.of (fun t k => XS.lstoreN X.here hx rfl hd rfl hl k) w
theorem w_aload (X : Sn Z n0 bs mx own nm ret p l e R s m args below meth c T h cells slots) {v : Value} (hd : decode bs pc = .ok (.aload k, 2)) (hl : Ls[k]? = some (.val v)) (hv : v.isRef = true) (hp : pc + 2 = pc')
    (w : W p e below s R n0 Q (T.setTop (mkF m pc' Ls (v :: st)))) : W p e below s R n0 Q (T.setTop (mkF m pc Ls (st))) := by
  obtain ⟨locs, X, eT, N, hs0, hcl, hsl, hx, hZ, rfl, hml, hown, hnm, hret, hlk⟩ := X
  subst hp
  exact W.of (fun t k => XS.aload X.here hx rfl hd hl hv k) w
theorem w_aloadN (X : Sn Z n0 bs mx own nm ret p l e R s m args below meth c T h cells slots) {v : Value} {q : Fin 4} (hd : decode bs pc = .ok (.aload_n q, 1)) (hl : Ls[q.val]? = some (.val v)) (hv : v.isRef = true) (hp : pc + 1 = pc')
    (w : W p e below s R n0 Q (T.setTop (mkF m pc' Ls (v :: st)))) : W p e below s R n0 Q (T.setTop (mkF m pc Ls (st))) := by
  obtain ⟨locs, X, eT, N, hs0, hcl, hsl, hx, hZ, rfl, hml, hown, hnm, hret, hlk⟩ := X
  subst hp
  exact W.of (fun t k => XS.aloadN X.here hx rfl hd hl hv k) w
theorem w_astore (X : Sn Z n0 bs mx own nm ret p l e R s m args below meth c T h cells slots) {v : Value} (hd : decode bs pc = .ok (.astore k, 2)) (hv : v.isRef = true) (hl : storeLocals Ls k v = some L') (hp : pc + 2 = pc')
    (w : W p e below s R n0 Q (T.setTop (mkF m pc' L' (st)))) : W p e below s R n0 Q (T.setTop (mkF m pc Ls (v :: st))) := by
  obtain ⟨locs, X, eT, N, hs0, hcl, hsl, hx, hZ, rfl, hml, hown, hnm, hret, hlk⟩ := X
  subst hp
  exact W.of (fun t k => XS.astore X.here hx rfl hd rfl hv hl k) w
theorem w_astoreN (X : Sn Z n0 bs mx own nm ret p l e R s m args below meth c T h cells slots) {v : Value} {q : Fin 4} (hd : decode bs pc = .ok (.astore_n q, 1)) (hv : v.isRef = true) (hl : storeLocals Ls q.val v = some L') (hp : pc + 1 = pc')
    (w : W p e below s R n0 Q (T.setTop (mkF m pc' L' (st)))) : W p e below s R n0 Q (T.setTop (mkF m pc Ls (v :: st))) := by
  obtain ⟨locs, X, eT, N, hs0, hcl, hsl, hx, hZ, rfl, hml, hown, hnm, hret, hlk⟩ := X
  subst hp
  exact W.of (fun t k => XS.astoreN X.here hx rfl hd rfl hv hl k) w
theorem w_iconst (X : Sn Z n0 bs mx own nm ret p l e R s m args below meth c T h cells slots) {z : Int32} (hd : decode bs pc = .ok (.iconst o, 1)) (hz : Int32.ofInt o = z) (hp : pc + 1 = pc')
    (w : W p e below s R n0 Q (T.setTop (mkF m pc' Ls (.int z :: st)))) : W p e below s R n0 Q (T.setTop (mkF m pc Ls (st))) := by
  obtain ⟨locs, X, eT, N, hs0, hcl, hsl, hx, hZ, rfl, hml, hown, hnm, hret, hlk⟩ := X
  subst hp
  exact W.of (fun t k => by subst hz; exact XS.iconst X.here hx rfl hd k) w
theorem w_bipush (X : Sn Z n0 bs mx own nm ret p l e R s m args below meth c T h cells slots) {z : Int32} (hd : decode bs pc = .ok (.bipush o, 2)) (hz : (Int8.ofInt o).toInt32 = z) (hp : pc + 2 = pc')
    (w : W p e below s R n0 Q (T.setTop (mkF m pc' Ls (.int z :: st)))) : W p e below s R n0 Q (T.setTop (mkF m pc Ls (st))) := by
  obtain ⟨locs, X, eT, N, hs0, hcl, hsl, hx, hZ, rfl, hml, hown, hnm, hret, hlk⟩ := X
  subst hp
  exact W.of (fun t k => by subst hz; exact XS.bipush X.here hx rfl hd k) w
theorem w_sipush (X : Sn Z n0 bs mx own nm ret p l e R s m args below meth c T h cells slots) {z : Int32} (hd : decode bs pc = .ok (.sipush o, 3)) (hz : (Int16.ofInt o).toInt32 = z) (hp : pc + 3 = pc')
    (w : W p e below s R n0 Q (T.setTop (mkF m pc' Ls (.int z :: st)))) : W p e below s R n0 Q (T.setTop (mkF m pc Ls (st))) := by
  obtain ⟨locs, X, eT, N, hs0, hcl, hsl, hx, hZ, rfl, hml, hown, hnm, hret, hlk⟩ := X
  subst hp
  exact W.of (fun t k => by subst hz; exact XS.sipush X.here hx rfl hd k) w
theorem w_lconst (X : Sn Z n0 bs mx own nm ret p l e R s m args below meth c T h cells slots) {z : Int64} {q : Fin 2} (hd : decode bs pc = .ok (.lconst q, 1)) (hz : Int64.ofNat q = z) (hp : pc + 1 = pc')
    (w : W p e below s R n0 Q (T.setTop (mkF m pc' Ls (.long z :: st)))) : W p e below s R n0 Q (T.setTop (mkF m pc Ls (st))) := by
  obtain ⟨locs, X, eT, N, hs0, hcl, hsl, hx, hZ, rfl, hml, hown, hnm, hret, hlk⟩ := X
  subst hp
  exact W.of (fun t k => by subst hz; exact XS.lconst X.here hx rfl hd k) w
theorem w_aconst_null (X : Sn Z n0 bs mx own nm ret p l e R s m args below meth c T h cells slots) (hd : decode bs pc = .ok (.aconst_null, 1)) (hp : pc + 1 = pc')
    (w : W p e below s R n0 Q (T.setTop (mkF m pc' Ls (.null :: st)))) : W p e below s R n0 Q (T.setTop (mkF m pc Ls (st))) := by
  obtain ⟨locs, X, eT, N, hs0, hcl, hsl, hx, hZ, rfl, hml, hown, hnm, hret, hlk⟩ := X
  subst hp
  exact W.of (fun t k => XS.aconstNull X.here hx rfl hd k) w
theorem w_ldc (X : Sn Z n0 bs mx own nm ret p l e R s m args below meth c T h cells slots) {z : Int32} {q : Nat} (hd : decode bs pc = .ok (.ldc q, 2)) (hw : (Cond.constant own q z).before a0 Z = true) (hp : pc + 2 = pc')
    (w : W p e below s R n0 Q (T.setTop (mkF m pc' Ls (.int z :: st)))) : W p e below s R n0 Q (T.setTop (mkF m pc Ls (st))) := by
  obtain ⟨locs, X, eT, N, hs0, hcl, hsl, hx, hZ, rfl, hml, hown, hnm, hret, hlk⟩ := X
  subst hp
  exact W.of (fun t k => X.ldcInt (own := own) (v := z) hx hown (mvT (args := args) (s := s) hZ hw rfl) (g := mkF m pc Ls st) rfl hd _ k) w
theorem w_ldc2 (X : Sn Z n0 bs mx own nm ret p l e R s m args below meth c T h cells slots) {z : Int64} {q : Nat} (hd : decode bs pc = .ok (.ldc2_w q, 3)) (hw : (Cond.constantLong own q z).before a0 Z = true) (hp : pc + 3 = pc')
    (w : W p e below s R n0 Q (T.setTop (mkF m pc' Ls (.long z :: st)))) : W p e below s R n0 Q (T.setTop (mkF m pc Ls (st))) := by
  obtain ⟨locs, X, eT, N, hs0, hcl, hsl, hx, hZ, rfl, hml, hown, hnm, hret, hlk⟩ := X
  subst hp
  exact W.of (fun t k => X.ldc2Long (own := own) (v := z) hx hown (mvT (args := args) (s := s) hZ hw rfl) (g := mkF m pc Ls st) rfl hd _ k) w
theorem w_iadd (X : Sn Z n0 bs mx own nm ret p l e R s m args below meth c T h cells slots) {x y : Int32} (hd : decode bs pc = .ok (.iadd, 1)) (hp : pc + 1 = pc')
    (w : W p e below s R n0 Q (T.setTop (mkF m pc' Ls (.int (x + y) :: st)))) : W p e below s R n0 Q (T.setTop (mkF m pc Ls (.int y :: .int x :: st))) := by
  obtain ⟨locs, X, eT, N, hs0, hcl, hsl, hx, hZ, rfl, hml, hown, hnm, hret, hlk⟩ := X
  subst hp
  exact W.of (fun t k => XS.iadd X.here hx rfl hd rfl k) w
theorem w_ladd (X : Sn Z n0 bs mx own nm ret p l e R s m args below meth c T h cells slots) {x y : Int64} (hd : decode bs pc = .ok (.ladd, 1)) (hp : pc + 1 = pc')
    (w : W p e below s R n0 Q (T.setTop (mkF m pc' Ls (.long (x + y) :: st)))) : W p e below s R n0 Q (T.setTop (mkF m pc Ls (.long y :: .long x :: st))) := by
  obtain ⟨locs, X, eT, N, hs0, hcl, hsl, hx, hZ, rfl, hml, hown, hnm, hret, hlk⟩ := X
  subst hp
  exact W.of (fun t k => XS.ladd X.here hx rfl hd rfl k) w
theorem w_isub (X : Sn Z n0 bs mx own nm ret p l e R s m args below meth c T h cells slots) {x y : Int32} (hd : decode bs pc = .ok (.isub, 1)) (hp : pc + 1 = pc')
    (w : W p e below s R n0 Q (T.setTop (mkF m pc' Ls (.int (x - y) :: st)))) : W p e below s R n0 Q (T.setTop (mkF m pc Ls (.int y :: .int x :: st))) := by
  obtain ⟨locs, X, eT, N, hs0, hcl, hsl, hx, hZ, rfl, hml, hown, hnm, hret, hlk⟩ := X
  subst hp
  exact W.of (fun t k => XS.isub X.here hx rfl hd rfl k) w
theorem w_lsub (X : Sn Z n0 bs mx own nm ret p l e R s m args below meth c T h cells slots) {x y : Int64} (hd : decode bs pc = .ok (.lsub, 1)) (hp : pc + 1 = pc')
    (w : W p e below s R n0 Q (T.setTop (mkF m pc' Ls (.long (x - y) :: st)))) : W p e below s R n0 Q (T.setTop (mkF m pc Ls (.long y :: .long x :: st))) := by
  obtain ⟨locs, X, eT, N, hs0, hcl, hsl, hx, hZ, rfl, hml, hown, hnm, hret, hlk⟩ := X
  subst hp
  exact W.of (fun t k => XS.lsub X.here hx rfl hd rfl k) w
theorem w_imul (X : Sn Z n0 bs mx own nm ret p l e R s m args below meth c T h cells slots) {x y : Int32} (hd : decode bs pc = .ok (.imul, 1)) (hp : pc + 1 = pc')
    (w : W p e below s R n0 Q (T.setTop (mkF m pc' Ls (.int (x * y) :: st)))) : W p e below s R n0 Q (T.setTop (mkF m pc Ls (.int y :: .int x :: st))) := by
  obtain ⟨locs, X, eT, N, hs0, hcl, hsl, hx, hZ, rfl, hml, hown, hnm, hret, hlk⟩ := X
  subst hp
  exact W.of (fun t k => XS.imul X.here hx rfl hd rfl k) w
theorem w_lmul (X : Sn Z n0 bs mx own nm ret p l e R s m args below meth c T h cells slots) {x y : Int64} (hd : decode bs pc = .ok (.lmul, 1)) (hp : pc + 1 = pc')
    (w : W p e below s R n0 Q (T.setTop (mkF m pc' Ls (.long (x * y) :: st)))) : W p e below s R n0 Q (T.setTop (mkF m pc Ls (.long y :: .long x :: st))) := by
  obtain ⟨locs, X, eT, N, hs0, hcl, hsl, hx, hZ, rfl, hml, hown, hnm, hret, hlk⟩ := X
  subst hp
  exact W.of (fun t k => XS.lmul X.here hx rfl hd rfl k) w
theorem w_iand (X : Sn Z n0 bs mx own nm ret p l e R s m args below meth c T h cells slots) {x y : Int32} (hd : decode bs pc = .ok (.iand, 1)) (hp : pc + 1 = pc')
    (w : W p e below s R n0 Q (T.setTop (mkF m pc' Ls (.int (x &&& y) :: st)))) : W p e below s R n0 Q (T.setTop (mkF m pc Ls (.int y :: .int x :: st))) := by
  obtain ⟨locs, X, eT, N, hs0, hcl, hsl, hx, hZ, rfl, hml, hown, hnm, hret, hlk⟩ := X
  subst hp
  exact W.of (fun t k => XS.iand X.here hx rfl hd rfl k) w
theorem w_land (X : Sn Z n0 bs mx own nm ret p l e R s m args below meth c T h cells slots) {x y : Int64} (hd : decode bs pc = .ok (.land, 1)) (hp : pc + 1 = pc')
    (w : W p e below s R n0 Q (T.setTop (mkF m pc' Ls (.long (x &&& y) :: st)))) : W p e below s R n0 Q (T.setTop (mkF m pc Ls (.long y :: .long x :: st))) := by
  obtain ⟨locs, X, eT, N, hs0, hcl, hsl, hx, hZ, rfl, hml, hown, hnm, hret, hlk⟩ := X
  subst hp
  exact W.of (fun t k => XS.land X.here hx rfl hd rfl k) w
theorem w_ior (X : Sn Z n0 bs mx own nm ret p l e R s m args below meth c T h cells slots) {x y : Int32} (hd : decode bs pc = .ok (.ior, 1)) (hp : pc + 1 = pc')
    (w : W p e below s R n0 Q (T.setTop (mkF m pc' Ls (.int (x ||| y) :: st)))) : W p e below s R n0 Q (T.setTop (mkF m pc Ls (.int y :: .int x :: st))) := by
  obtain ⟨locs, X, eT, N, hs0, hcl, hsl, hx, hZ, rfl, hml, hown, hnm, hret, hlk⟩ := X
  subst hp
  exact W.of (fun t k => XS.ior X.here hx rfl hd rfl k) w
theorem w_lor (X : Sn Z n0 bs mx own nm ret p l e R s m args below meth c T h cells slots) {x y : Int64} (hd : decode bs pc = .ok (.lor, 1)) (hp : pc + 1 = pc')
    (w : W p e below s R n0 Q (T.setTop (mkF m pc' Ls (.long (x ||| y) :: st)))) : W p e below s R n0 Q (T.setTop (mkF m pc Ls (.long y :: .long x :: st))) := by
  obtain ⟨locs, X, eT, N, hs0, hcl, hsl, hx, hZ, rfl, hml, hown, hnm, hret, hlk⟩ := X
  subst hp
  exact W.of (fun t k => XS.lor X.here hx rfl hd rfl k) w
theorem w_ixor (X : Sn Z n0 bs mx own nm ret p l e R s m args below meth c T h cells slots) {x y : Int32} (hd : decode bs pc = .ok (.ixor, 1)) (hp : pc + 1 = pc')
    (w : W p e below s R n0 Q (T.setTop (mkF m pc' Ls (.int (x ^^^ y) :: st)))) : W p e below s R n0 Q (T.setTop (mkF m pc Ls (.int y :: .int x :: st))) := by
  obtain ⟨locs, X, eT, N, hs0, hcl, hsl, hx, hZ, rfl, hml, hown, hnm, hret, hlk⟩ := X
  subst hp
  exact W.of (fun t k => XS.ixor X.here hx rfl hd rfl k) w
theorem w_lxor (X : Sn Z n0 bs mx own nm ret p l e R s m args below meth c T h cells slots) {x y : Int64} (hd : decode bs pc = .ok (.lxor, 1)) (hp : pc + 1 = pc')
    (w : W p e below s R n0 Q (T.setTop (mkF m pc' Ls (.long (x ^^^ y) :: st)))) : W p e below s R n0 Q (T.setTop (mkF m pc Ls (.long y :: .long x :: st))) := by
  obtain ⟨locs, X, eT, N, hs0, hcl, hsl, hx, hZ, rfl, hml, hown, hnm, hret, hlk⟩ := X
  subst hp
  exact W.of (fun t k => XS.lxor X.here hx rfl hd rfl k) w
theorem w_ishl (X : Sn Z n0 bs mx own nm ret p l e R s m args below meth c T h cells slots) {x y : Int32} (hd : decode bs pc = .ok (.ishl, 1)) (hp : pc + 1 = pc')
    (w : W p e below s R n0 Q (T.setTop (mkF m pc' Ls (.int (isl x y) :: st)))) : W p e below s R n0 Q (T.setTop (mkF m pc Ls (.int y :: .int x :: st))) := by
  obtain ⟨locs, X, eT, N, hs0, hcl, hsl, hx, hZ, rfl, hml, hown, hnm, hret, hlk⟩ := X
  subst hp
  exact W.of (fun t k => XS.ishl X.here hx rfl hd rfl k) w
theorem w_ishr (X : Sn Z n0 bs mx own nm ret p l e R s m args below meth c T h cells slots) {x y : Int32} (hd : decode bs pc = .ok (.ishr, 1)) (hp : pc + 1 = pc')
    (w : W p e below s R n0 Q (T.setTop (mkF m pc' Ls (.int (isr x y) :: st)))) : W p e below s R n0 Q (T.setTop (mkF m pc Ls (.int y :: .int x :: st))) := by
  obtain ⟨locs, X, eT, N, hs0, hcl, hsl, hx, hZ, rfl, hml, hown, hnm, hret, hlk⟩ := X
  subst hp
  exact W.of (fun t k => XS.ishr X.here hx rfl hd rfl k) w
theorem w_iushr (X : Sn Z n0 bs mx own nm ret p l e R s m args below meth c T h cells slots) {x y : Int32} (hd : decode bs pc = .ok (.iushr, 1)) (hp : pc + 1 = pc')
    (w : W p e below s R n0 Q (T.setTop (mkF m pc' Ls (.int (ius x y) :: st)))) : W p e below s R n0 Q (T.setTop (mkF m pc Ls (.int y :: .int x :: st))) := by
  obtain ⟨locs, X, eT, N, hs0, hcl, hsl, hx, hZ, rfl, hml, hown, hnm, hret, hlk⟩ := X
  subst hp
  exact W.of (fun t k => XS.iushr X.here hx rfl hd rfl k) w
theorem w_lshl (X : Sn Z n0 bs mx own nm ret p l e R s m args below meth c T h cells slots) {x : Int64} {y : Int32} (hd : decode bs pc = .ok (.lshl, 1)) (hp : pc + 1 = pc')
    (w : W p e below s R n0 Q (T.setTop (mkF m pc' Ls (.long (lsl x y) :: st)))) : W p e below s R n0 Q (T.setTop (mkF m pc Ls (.int y :: .long x :: st))) := by
  obtain ⟨locs, X, eT, N, hs0, hcl, hsl, hx, hZ, rfl, hml, hown, hnm, hret, hlk⟩ := X
  subst hp
  exact W.of (fun t k => XS.lshl X.here hx rfl hd rfl k) w
theorem w_lshr (X : Sn Z n0 bs mx own nm ret p l e R s m args below meth c T h cells slots) {x : Int64} {y : Int32} (hd : decode bs pc = .ok (.lshr, 1)) (hp : pc + 1 = pc')
    (w : W p e below s R n0 Q (T.setTop (mkF m pc' Ls (.long (lsr x y) :: st)))) : W p e below s R n0 Q (T.setTop (mkF m pc Ls (.int y :: .long x :: st))) := by
  obtain ⟨locs, X, eT, N, hs0, hcl, hsl, hx, hZ, rfl, hml, hown, hnm, hret, hlk⟩ := X
  subst hp
  exact W.of (fun t k => XS.lshr X.here hx rfl hd rfl k) w
theorem w_lushr (X : Sn Z n0 bs mx own nm ret p l e R s m args below meth c T h cells slots) {x : Int64} {y : Int32} (hd : decode bs pc = .ok (.lushr, 1)) (hp : pc + 1 = pc')
    (w : W p e below s R n0 Q (T.setTop (mkF m pc' Ls (.long (lus x y) :: st)))) : W p e below s R n0 Q (T.setTop (mkF m pc Ls (.int y :: .long x :: st))) := by
  obtain ⟨locs, X, eT, N, hs0, hcl, hsl, hx, hZ, rfl, hml, hown, hnm, hret, hlk⟩ := X
  subst hp
  exact W.of (fun t k => XS.lushr X.here hx rfl hd rfl k) w
theorem w_idiv (X : Sn Z n0 bs mx own nm ret p l e R s m args below meth c T h cells slots) {x y : Int32} (hd : decode bs pc = .ok (.idiv, 1)) (hy : y ≠ 0) (hp : pc + 1 = pc')
    (w : W p e below s R n0 Q (T.setTop (mkF m pc' Ls (.int (x / y) :: st)))) : W p e below s R n0 Q (T.setTop (mkF m pc Ls (.int y :: .int x :: st))) := by
  obtain ⟨locs, X, eT, N, hs0, hcl, hsl, hx, hZ, rfl, hml, hown, hnm, hret, hlk⟩ := X
  subst hp
  exact W.of (fun t k => XS.idiv X.here hx rfl hd rfl hy k) w
theorem w_irem (X : Sn Z n0 bs mx own nm ret p l e R s m args below meth c T h cells slots) {x y : Int32} (hd : decode bs pc = .ok (.irem, 1)) (hy : y ≠ 0) (hp : pc + 1 = pc')
    (w : W p e below s R n0 Q (T.setTop (mkF m pc' Ls (.int (x % y) :: st)))) : W p e below s R n0 Q (T.setTop (mkF m pc Ls (.int y :: .int x :: st))) := by
  obtain ⟨locs, X, eT, N, hs0, hcl, hsl, hx, hZ, rfl, hml, hown, hnm, hret, hlk⟩ := X
  subst hp
  exact W.of (fun t k => iremM X hx rfl hd rfl hy k) w
theorem w_ineg (X : Sn Z n0 bs mx own nm ret p l e R s m args below meth c T h cells slots) {x : Int32} (hd : decode bs pc = .ok (.ineg, 1)) (hp : pc + 1 = pc')
    (w : W p e below s R n0 Q (T.setTop (mkF m pc' Ls (.int (-x) :: st)))) : W p e below s R n0 Q (T.setTop (mkF m pc Ls (.int x :: st))) := by
  obtain ⟨locs, X, eT, N, hs0, hcl, hsl, hx, hZ, rfl, hml, hown, hnm, hret, hlk⟩ := X
  subst hp
  exact W.of (fun t k => XS.ineg X.here hx rfl hd rfl k) w
theorem w_lneg (X : Sn Z n0 bs mx own nm ret p l e R s m args below meth c T h cells slots) {x : Int64} (hd : decode bs pc = .ok (.lneg, 1)) (hp : pc + 1 = pc')
    (w : W p e below s R n0 Q (T.setTop (mkF m pc' Ls (.long (-x) :: st)))) : W p e below s R n0 Q (T.setTop (mkF m pc Ls (.long x :: st))) := by
  obtain ⟨locs, X, eT, N, hs0, hcl, hsl, hx, hZ, rfl, hml, hown, hnm, hret, hlk⟩ := X
  subst hp
  exact W.of (fun t k => XS.lneg X.here hx rfl hd rfl k) w
theorem w_i2l (X : Sn Z n0 bs mx own nm ret p l e R s m args below meth c T h cells slots) {x : Int32} (hd : decode bs pc = .ok (.i2l, 1)) (hp : pc + 1 = pc')
    (w : W p e below s R n0 Q (T.setTop (mkF m pc' Ls (.long x.toInt64 :: st)))) : W p e below s R n0 Q (T.setTop (mkF m pc Ls (.int x :: st))) := by
  obtain ⟨locs, X, eT, N, hs0, hcl, hsl, hx, hZ, rfl, hml, hown, hnm, hret, hlk⟩ := X
  subst hp
  exact W.of (fun t k => XS.i2l X.here hx rfl hd rfl k) w
theorem w_l2i (X : Sn Z n0 bs mx own nm ret p l e R s m args below meth c T h cells slots) {x : Int64} (hd : decode bs pc = .ok (.l2i, 1)) (hp : pc + 1 = pc')
    (w : W p e below s R n0 Q (T.setTop (mkF m pc' Ls (.int x.toInt32 :: st)))) : W p e below s R n0 Q (T.setTop (mkF m pc Ls (.long x :: st))) := by
  obtain ⟨locs, X, eT, N, hs0, hcl, hsl, hx, hZ, rfl, hml, hown, hnm, hret, hlk⟩ := X
  subst hp
  exact W.of (fun t k => XS.l2i X.here hx rfl hd rfl k) w
theorem w_i2b (X : Sn Z n0 bs mx own nm ret p l e R s m args below meth c T h cells slots) {x : Int32} (hd : decode bs pc = .ok (.i2b, 1)) (hp : pc + 1 = pc')
    (w : W p e below s R n0 Q (T.setTop (mkF m pc' Ls (.int x.toInt8.toInt32 :: st)))) : W p e below s R n0 Q (T.setTop (mkF m pc Ls (.int x :: st))) := by
  obtain ⟨locs, X, eT, N, hs0, hcl, hsl, hx, hZ, rfl, hml, hown, hnm, hret, hlk⟩ := X
  subst hp
  exact W.of (fun t k => XS.i2b X.here hx rfl hd rfl k) w
theorem w_i2s (X : Sn Z n0 bs mx own nm ret p l e R s m args below meth c T h cells slots) {x : Int32} (hd : decode bs pc = .ok (.i2s, 1)) (hp : pc + 1 = pc')
    (w : W p e below s R n0 Q (T.setTop (mkF m pc' Ls (.int x.toInt16.toInt32 :: st)))) : W p e below s R n0 Q (T.setTop (mkF m pc Ls (.int x :: st))) := by
  obtain ⟨locs, X, eT, N, hs0, hcl, hsl, hx, hZ, rfl, hml, hown, hnm, hret, hlk⟩ := X
  subst hp
  exact W.of (fun t k => XS.i2s X.here hx rfl hd rfl k) w
theorem w_dup (X : Sn Z n0 bs mx own nm ret p l e R s m args below meth c T h cells slots) {v : Value} (hd : decode bs pc = .ok (.dup, 1)) (hv : v.category = 1) (hp : pc + 1 = pc')
    (w : W p e below s R n0 Q (T.setTop (mkF m pc' Ls (v :: v :: st)))) : W p e below s R n0 Q (T.setTop (mkF m pc Ls (v :: st))) := by
  obtain ⟨locs, X, eT, N, hs0, hcl, hsl, hx, hZ, rfl, hml, hown, hnm, hret, hlk⟩ := X
  subst hp
  exact W.of (fun t k => XS.dup X.here hx rfl hd rfl hv k) w
theorem w_dup2 (X : Sn Z n0 bs mx own nm ret p l e R s m args below meth c T h cells slots) {v u : Value} (hd : decode bs pc = .ok (.dup2, 1)) (hv : v.category = 1) (hu : u.category = 1) (hp : pc + 1 = pc')
    (w : W p e below s R n0 Q (T.setTop (mkF m pc' Ls (v :: u :: v :: u :: st)))) : W p e below s R n0 Q (T.setTop (mkF m pc Ls (v :: u :: st))) := by
  obtain ⟨locs, X, eT, N, hs0, hcl, hsl, hx, hZ, rfl, hml, hown, hnm, hret, hlk⟩ := X
  subst hp
  exact W.of (fun t k => XT.dup2 X.here hx rfl hd rfl hv hu k) w
theorem w_pop (X : Sn Z n0 bs mx own nm ret p l e R s m args below meth c T h cells slots) {v : Value} (hd : decode bs pc = .ok (.pop, 1)) (hv : v.category = 1) (hp : pc + 1 = pc')
    (w : W p e below s R n0 Q (T.setTop (mkF m pc' Ls (st)))) : W p e below s R n0 Q (T.setTop (mkF m pc Ls (v :: st))) := by
  obtain ⟨locs, X, eT, N, hs0, hcl, hsl, hx, hZ, rfl, hml, hown, hnm, hret, hlk⟩ := X
  subst hp
  exact W.of (fun t k => XS.pop X.here hx rfl hd rfl hv k) w
theorem w_iinc (X : Sn Z n0 bs mx own nm ret p l e R s m args below meth c T h cells slots) {x z : Int32} (hd : decode bs pc = .ok (.iinc k o, 3)) (hl : Ls[k]? = some (.val (.int x))) (hz : x + Int32.ofInt o = z) (hl' : storeLocals Ls k (.int z) = some L') (hp : pc + 3 = pc')
    (w : W p e below s R n0 Q (T.setTop (mkF m pc' L' (st)))) : W p e below s R n0 Q (T.setTop (mkF m pc Ls (st))) := by
  obtain ⟨locs, X, eT, N, hs0, hcl, hsl, hx, hZ, rfl, hml, hown, hnm, hret, hlk⟩ := X
  subst hp hz
  exact W.of (fun t k => XS.iinc X.here hx rfl hd hl hl' k) w
theorem w_goto (X : Sn Z n0 bs mx own nm ret p l e R s m args below meth c T h cells slots) (hd : decode bs pc = .ok (.goto o, 3)) (hp : 0 ≤ (pc : Int) + o ∧ ((pc : Int) + o).toNat = pc')
    (w : W p e below s R n0 Q (T.setTop (mkF m pc' Ls (st)))) : W p e below s R n0 Q (T.setTop (mkF m pc Ls (st))) := by
  obtain ⟨locs, X, eT, N, hs0, hcl, hsl, hx, hZ, rfl, hml, hown, hnm, hret, hlk⟩ := X
  exact W.of (fun t k => XS.goto X.here hx rfl rfl hd hp.1 hp.2 k) w
theorem hI_eq {x y : Int32} : if_icmp.holds .eq x y = decide (x = y) := by by_cases q : x = y <;> simp [q, (teq · |>.1), (feq · |>.1)]
theorem hI_ne {x y : Int32} : if_icmp.holds .ne x y = decide (x ≠ y) := by by_cases q : x = y <;> simp [q, (teq · |>.2), (feq · |>.2)]
theorem hI_lt {x y : Int32} : if_icmp.holds .lt x y = decide (x.toInt < y.toInt) := by
  by_cases q : x < y
  · rw [(tlt q).1]; exact (decide_eq_true (Int32.lt_iff_toInt_lt.mp q)).symm
  · rw [(flt q).1]; exact (decide_eq_false fun z => q (Int32.lt_iff_toInt_lt.mpr z)).symm
theorem hI_ge {x y : Int32} : if_icmp.holds .ge x y = decide (x.toInt ≥ y.toInt) := by
  by_cases q : x < y
  · rw [(tlt q).2.1]; exact (decide_eq_false fun z => by have := Int32.lt_iff_toInt_lt.mp q; omega).symm
  · rw [(flt q).2.1]; exact (decide_eq_true (by rw [Int32.lt_iff_toInt_lt] at q; omega)).symm
theorem hI_gt {x y : Int32} : if_icmp.holds .gt x y = decide (x.toInt > y.toInt) := by
  by_cases q : y < x
  · rw [(tlt q).2.2.1]; exact (decide_eq_true (Int32.lt_iff_toInt_lt.mp q)).symm
  · rw [(flt q).2.2.1]; exact (decide_eq_false fun z => q (Int32.lt_iff_toInt_lt.mpr z)).symm
theorem hI_le {x y : Int32} : if_icmp.holds .le x y = decide (x.toInt ≤ y.toInt) := by
  by_cases q : y < x
  · rw [(tlt q).2.2.2]; exact (decide_eq_false fun z => by have := Int32.lt_iff_toInt_lt.mp q; omega).symm
  · rw [(flt q).2.2.2]; exact (decide_eq_true (by rw [Int32.lt_iff_toInt_lt] at q; omega)).symm
theorem w_icmp_eq (X : Sn Z n0 bs mx own nm ret p l e R s m args below meth c T h cells slots) {x y : Int32} (hd : decode bs pc = .ok (.if_icmp .eq o, 3)) (hp : 0 ≤ (pc : Int) + o ∧ ((pc : Int) + o).toNat = pc1 ∧ pc + 3 = pc2)
    (yes : x = y → W p e below s R n0 Q (T.setTop (mkF m pc1 Ls (st)))) (no : x ≠ y → W p e below s R n0 Q (T.setTop (mkF m pc2 Ls (st)))) : W p e below s R n0 Q (T.setTop (mkF m pc Ls (.int y :: .int x :: st))) := by
  obtain ⟨locs, X, eT, N, hs0, hcl, hsl, hx, hZ, rfl, hml, hown, hnm, hret, hlk⟩ := X
  by_cases z : x = y
  · exact W.of (fun t k => XS.icmpYes X.here hx rfl rfl hd rfl (hI_eq.trans (decide_eq_true z)) hp.1 hp.2.1 k) (yes z)
  · have w := no (z)
    rw [← hp.2.2] at w
    exact W.of (fun t k => XS.icmpNo X.here hx rfl hd rfl (hI_eq.trans (decide_eq_false z)) k) w
theorem w_if_eq (X : Sn Z n0 bs mx own nm ret p l e R s m args below meth c T h cells slots) {x : Int32} (hd : decode bs pc = .ok (.ifCond .eq o, 3)) (hp : 0 ≤ (pc : Int) + o ∧ ((pc : Int) + o).toNat = pc1 ∧ pc + 3 = pc2)
    (yes : x = 0 → W p e below s R n0 Q (T.setTop (mkF m pc1 Ls (st)))) (no : x ≠ 0 → W p e below s R n0 Q (T.setTop (mkF m pc2 Ls (st)))) : W p e below s R n0 Q (T.setTop (mkF m pc Ls (.int x :: st))) := by
  obtain ⟨locs, X, eT, N, hs0, hcl, hsl, hx, hZ, rfl, hml, hown, hnm, hret, hlk⟩ := X
  have hq : ifCond.holds .eq x = decide (x = 0) := (if0 _ _).trans hI_eq
  by_cases z : x = 0
  · exact W.of (fun t k => XS.ifYes X.here hx rfl rfl hd rfl (hq.trans (decide_eq_true z)) hp.1 hp.2.1 k) (yes z)
  · have w := no (z)
    rw [← hp.2.2] at w
    exact W.of (fun t k => XS.ifNo X.here hx rfl hd rfl (hq.trans (decide_eq_false z)) k) w
theorem w_icmp_ne (X : Sn Z n0 bs mx own nm ret p l e R s m args below meth c T h cells slots) {x y : Int32} (hd : decode bs pc = .ok (.if_icmp .ne o, 3)) (hp : 0 ≤ (pc : Int) + o ∧ ((pc : Int) + o).toNat = pc1 ∧ pc + 3 = pc2)
    (yes : x ≠ y → W p e below s R n0 Q (T.setTop (mkF m pc1 Ls (st)))) (no : x = y → W p e below s R n0 Q (T.setTop (mkF m pc2 Ls (st)))) : W p e below s R n0 Q (T.setTop (mkF m pc Ls (.int y :: .int x :: st))) := by
  obtain ⟨locs, X, eT, N, hs0, hcl, hsl, hx, hZ, rfl, hml, hown, hnm, hret, hlk⟩ := X
  by_cases z : x ≠ y
  · exact W.of (fun t k => XS.icmpYes X.here hx rfl rfl hd rfl (hI_ne.trans (decide_eq_true z)) hp.1 hp.2.1 k) (yes z)
  · have w := no (Classical.byContradiction fun u => z u)
    rw [← hp.2.2] at w
    exact W.of (fun t k => XS.icmpNo X.here hx rfl hd rfl (hI_ne.trans (decide_eq_false z)) k) w
theorem w_if_ne (X : Sn Z n0 bs mx own nm ret p l e R s m args below meth c T h cells slots) {x : Int32} (hd : decode bs pc = .ok (.ifCond .ne o, 3)) (hp : 0 ≤ (pc : Int) + o ∧ ((pc : Int) + o).toNat = pc1 ∧ pc + 3 = pc2)
    (yes : x ≠ 0 → W p e below s R n0 Q (T.setTop (mkF m pc1 Ls (st)))) (no : x = 0 → W p e below s R n0 Q (T.setTop (mkF m pc2 Ls (st)))) : W p e below s R n0 Q (T.setTop (mkF m pc Ls (.int x :: st))) := by
  obtain ⟨locs, X, eT, N, hs0, hcl, hsl, hx, hZ, rfl, hml, hown, hnm, hret, hlk⟩ := X
  have hq : ifCond.holds .ne x = decide (x ≠ 0) := (if0 _ _).trans hI_ne
  by_cases z : x ≠ 0
  · exact W.of (fun t k => XS.ifYes X.here hx rfl rfl hd rfl (hq.trans (decide_eq_true z)) hp.1 hp.2.1 k) (yes z)
  · have w := no (Classical.byContradiction fun u => z u)
    rw [← hp.2.2] at w
    exact W.of (fun t k => XS.ifNo X.here hx rfl hd rfl (hq.trans (decide_eq_false z)) k) w
theorem w_icmp_lt (X : Sn Z n0 bs mx own nm ret p l e R s m args below meth c T h cells slots) {x y : Int32} (hd : decode bs pc = .ok (.if_icmp .lt o, 3)) (hp : 0 ≤ (pc : Int) + o ∧ ((pc : Int) + o).toNat = pc1 ∧ pc + 3 = pc2)
    (yes : x.toInt < y.toInt → W p e below s R n0 Q (T.setTop (mkF m pc1 Ls (st)))) (no : x.toInt ≥ y.toInt → W p e below s R n0 Q (T.setTop (mkF m pc2 Ls (st)))) : W p e below s R n0 Q (T.setTop (mkF m pc Ls (.int y :: .int x :: st))) := by
  obtain ⟨locs, X, eT, N, hs0, hcl, hsl, hx, hZ, rfl, hml, hown, hnm, hret, hlk⟩ := X
  by_cases z : x.toInt < y.toInt
  · exact W.of (fun t k => XS.icmpYes X.here hx rfl rfl hd rfl (hI_lt.trans (decide_eq_true z)) hp.1 hp.2.1 k) (yes z)
  · have w := no (Int.not_lt.mp z)
    rw [← hp.2.2] at w
    exact W.of (fun t k => XS.icmpNo X.here hx rfl hd rfl (hI_lt.trans (decide_eq_false z)) k) w
theorem w_if_lt (X : Sn Z n0 bs mx own nm ret p l e R s m args below meth c T h cells slots) {x : Int32} (hd : decode bs pc = .ok (.ifCond .lt o, 3)) (hp : 0 ≤ (pc : Int) + o ∧ ((pc : Int) + o).toNat = pc1 ∧ pc + 3 = pc2)
    (yes : x.toInt < 0 → W p e below s R n0 Q (T.setTop (mkF m pc1 Ls (st)))) (no : x.toInt ≥ 0 → W p e below s R n0 Q (T.setTop (mkF m pc2 Ls (st)))) : W p e below s R n0 Q (T.setTop (mkF m pc Ls (.int x :: st))) := by
  obtain ⟨locs, X, eT, N, hs0, hcl, hsl, hx, hZ, rfl, hml, hown, hnm, hret, hlk⟩ := X
  have hq : ifCond.holds .lt x = decide (x.toInt < 0) := (if0 _ _).trans hI_lt
  by_cases z : x.toInt < 0
  · exact W.of (fun t k => XS.ifYes X.here hx rfl rfl hd rfl (hq.trans (decide_eq_true z)) hp.1 hp.2.1 k) (yes z)
  · have w := no (Int.not_lt.mp z)
    rw [← hp.2.2] at w
    exact W.of (fun t k => XS.ifNo X.here hx rfl hd rfl (hq.trans (decide_eq_false z)) k) w
theorem w_icmp_ge (X : Sn Z n0 bs mx own nm ret p l e R s m args below meth c T h cells slots) {x y : Int32} (hd : decode bs pc = .ok (.if_icmp .ge o, 3)) (hp : 0 ≤ (pc : Int) + o ∧ ((pc : Int) + o).toNat = pc1 ∧ pc + 3 = pc2)
    (yes : x.toInt ≥ y.toInt → W p e below s R n0 Q (T.setTop (mkF m pc1 Ls (st)))) (no : x.toInt < y.toInt → W p e below s R n0 Q (T.setTop (mkF m pc2 Ls (st)))) : W p e below s R n0 Q (T.setTop (mkF m pc Ls (.int y :: .int x :: st))) := by
  obtain ⟨locs, X, eT, N, hs0, hcl, hsl, hx, hZ, rfl, hml, hown, hnm, hret, hlk⟩ := X
  by_cases z : x.toInt ≥ y.toInt
  · exact W.of (fun t k => XS.icmpYes X.here hx rfl rfl hd rfl (hI_ge.trans (decide_eq_true z)) hp.1 hp.2.1 k) (yes z)
  · have w := no (Int.not_le.mp z)
    rw [← hp.2.2] at w
    exact W.of (fun t k => XS.icmpNo X.here hx rfl hd rfl (hI_ge.trans (decide_eq_false z)) k) w
theorem w_if_ge (X : Sn Z n0 bs mx own nm ret p l e R s m args below meth c T h cells slots) {x : Int32} (hd : decode bs pc = .ok (.ifCond .ge o, 3)) (hp : 0 ≤ (pc : Int) + o ∧ ((pc : Int) + o).toNat = pc1 ∧ pc + 3 = pc2)
    (yes : x.toInt ≥ 0 → W p e below s R n0 Q (T.setTop (mkF m pc1 Ls (st)))) (no : x.toInt < 0 → W p e below s R n0 Q (T.setTop (mkF m pc2 Ls (st)))) : W p e below s R n0 Q (T.setTop (mkF m pc Ls (.int x :: st))) := by
  obtain ⟨locs, X, eT, N, hs0, hcl, hsl, hx, hZ, rfl, hml, hown, hnm, hret, hlk⟩ := X
  have hq : ifCond.holds .ge x = decide (x.toInt ≥ 0) := (if0 _ _).trans hI_ge
  by_cases z : x.toInt ≥ 0
  · exact W.of (fun t k => XS.ifYes X.here hx rfl rfl hd rfl (hq.trans (decide_eq_true z)) hp.1 hp.2.1 k) (yes z)
  · have w := no (Int.not_le.mp z)
    rw [← hp.2.2] at w
    exact W.of (fun t k => XS.ifNo X.here hx rfl hd rfl (hq.trans (decide_eq_false z)) k) w
theorem w_icmp_gt (X : Sn Z n0 bs mx own nm ret p l e R s m args below meth c T h cells slots) {x y : Int32} (hd : decode bs pc = .ok (.if_icmp .gt o, 3)) (hp : 0 ≤ (pc : Int) + o ∧ ((pc : Int) + o).toNat = pc1 ∧ pc + 3 = pc2)
    (yes : x.toInt > y.toInt → W p e below s R n0 Q (T.setTop (mkF m pc1 Ls (st)))) (no : x.toInt ≤ y.toInt → W p e below s R n0 Q (T.setTop (mkF m pc2 Ls (st)))) : W p e below s R n0 Q (T.setTop (mkF m pc Ls (.int y :: .int x :: st))) := by
  obtain ⟨locs, X, eT, N, hs0, hcl, hsl, hx, hZ, rfl, hml, hown, hnm, hret, hlk⟩ := X
  by_cases z : x.toInt > y.toInt
  · exact W.of (fun t k => XS.icmpYes X.here hx rfl rfl hd rfl (hI_gt.trans (decide_eq_true z)) hp.1 hp.2.1 k) (yes z)
  · have w := no (Int.not_lt.mp z)
    rw [← hp.2.2] at w
    exact W.of (fun t k => XS.icmpNo X.here hx rfl hd rfl (hI_gt.trans (decide_eq_false z)) k) w
theorem w_if_gt (X : Sn Z n0 bs mx own nm ret p l e R s m args below meth c T h cells slots) {x : Int32} (hd : decode bs pc = .ok (.ifCond .gt o, 3)) (hp : 0 ≤ (pc : Int) + o ∧ ((pc : Int) + o).toNat = pc1 ∧ pc + 3 = pc2)
    (yes : x.toInt > 0 → W p e below s R n0 Q (T.setTop (mkF m pc1 Ls (st)))) (no : x.toInt ≤ 0 → W p e below s R n0 Q (T.setTop (mkF m pc2 Ls (st)))) : W p e below s R n0 Q (T.setTop (mkF m pc Ls (.int x :: st))) := by
  obtain ⟨locs, X, eT, N, hs0, hcl, hsl, hx, hZ, rfl, hml, hown, hnm, hret, hlk⟩ := X
  have hq : ifCond.holds .gt x = decide (x.toInt > 0) := (if0 _ _).trans hI_gt
  by_cases z : x.toInt > 0
  · exact W.of (fun t k => XS.ifYes X.here hx rfl rfl hd rfl (hq.trans (decide_eq_true z)) hp.1 hp.2.1 k) (yes z)
  · have w := no (Int.not_lt.mp z)
    rw [← hp.2.2] at w
    exact W.of (fun t k => XS.ifNo X.here hx rfl hd rfl (hq.trans (decide_eq_false z)) k) w
theorem w_icmp_le (X : Sn Z n0 bs mx own nm ret p l e R s m args below meth c T h cells slots) {x y : Int32} (hd : decode bs pc = .ok (.if_icmp .le o, 3)) (hp : 0 ≤ (pc : Int) + o ∧ ((pc : Int) + o).toNat = pc1 ∧ pc + 3 = pc2)
    (yes : x.toInt ≤ y.toInt → W p e below s R n0 Q (T.setTop (mkF m pc1 Ls (st)))) (no : x.toInt > y.toInt → W p e below s R n0 Q (T.setTop (mkF m pc2 Ls (st)))) : W p e below s R n0 Q (T.setTop (mkF m pc Ls (.int y :: .int x :: st))) := by
  obtain ⟨locs, X, eT, N, hs0, hcl, hsl, hx, hZ, rfl, hml, hown, hnm, hret, hlk⟩ := X
  by_cases z : x.toInt ≤ y.toInt
  · exact W.of (fun t k => XS.icmpYes X.here hx rfl rfl hd rfl (hI_le.trans (decide_eq_true z)) hp.1 hp.2.1 k) (yes z)
  · have w := no (Int.not_le.mp z)
    rw [← hp.2.2] at w
    exact W.of (fun t k => XS.icmpNo X.here hx rfl hd rfl (hI_le.trans (decide_eq_false z)) k) w
theorem w_if_le (X : Sn Z n0 bs mx own nm ret p l e R s m args below meth c T h cells slots) {x : Int32} (hd : decode bs pc = .ok (.ifCond .le o, 3)) (hp : 0 ≤ (pc : Int) + o ∧ ((pc : Int) + o).toNat = pc1 ∧ pc + 3 = pc2)
    (yes : x.toInt ≤ 0 → W p e below s R n0 Q (T.setTop (mkF m pc1 Ls (st)))) (no : x.toInt > 0 → W p e below s R n0 Q (T.setTop (mkF m pc2 Ls (st)))) : W p e below s R n0 Q (T.setTop (mkF m pc Ls (.int x :: st))) := by
  obtain ⟨locs, X, eT, N, hs0, hcl, hsl, hx, hZ, rfl, hml, hown, hnm, hret, hlk⟩ := X
  have hq : ifCond.holds .le x = decide (x.toInt ≤ 0) := (if0 _ _).trans hI_le
  by_cases z : x.toInt ≤ 0
  · exact W.of (fun t k => XS.ifYes X.here hx rfl rfl hd rfl (hq.trans (decide_eq_true z)) hp.1 hp.2.1 k) (yes z)
  · have w := no (Int.not_le.mp z)
    rw [← hp.2.2] at w
    exact W.of (fun t k => XS.ifNo X.here hx rfl hd rfl (hq.trans (decide_eq_false z)) k) w
theorem hL {x y : Int64} : (if x > y then (1 : Int32) else if x = y then 0 else -1).toInt = if x.toInt > y.toInt then 1 else if x = y then 0 else -1 := by
  by_cases q : x > y
  · have q' : x.toInt > y.toInt := Int64.lt_iff_toInt_lt.mp q
    rw [if_pos q, if_pos q']; rfl
  · have q' : ¬ x.toInt > y.toInt := fun z => q (Int64.lt_iff_toInt_lt.mpr z)
    rw [if_neg q, if_neg q']
    by_cases r : x = y
    · rw [if_pos r, if_pos r]; rfl
    · rw [if_neg r, if_neg r]; rfl
theorem hL2 {x y : Int64} : ((if x > y then (1 : Int32) else if x = y then 0 else -1).toInt = 1 ∧ x.toInt > y.toInt) ∨ ((if x > y then (1 : Int32) else if x = y then 0 else -1) = 0 ∧ x = y ∧ x.toInt = y.toInt) ∨ ((if x > y then (1 : Int32) else if x = y then 0 else -1).toInt = -1 ∧ x.toInt < y.toInt) := by
  by_cases q : x.toInt > y.toInt
  · left; rw [hL, if_pos q]; exact ⟨rfl, q⟩
  · by_cases r : x = y
    · right; left; subst r; exact ⟨by rw [if_neg (fun z => q (Int64.lt_iff_toInt_lt.mp z)), if_pos rfl], rfl, rfl⟩
    · right; right; rw [hL, if_neg q, if_neg r]; refine ⟨rfl, ?_⟩
      have : x.toInt ≠ y.toInt := fun z => r (Int64.toInt_inj.mp z)
      omega
theorem w_lcif_eq (X : Sn Z n0 bs mx own nm ret p l e R s m args below meth c T h cells slots) {x y : Int64} (hd : decode bs pc = .ok (.lcmp, 1)) (hd2 : decode bs pc' = .ok (.ifCond .eq o, 3)) (hp : pc + 1 = pc' ∧ 0 ≤ (pc' : Int) + o ∧ ((pc' : Int) + o).toNat = pc1 ∧ pc' + 3 = pc2)
    (yes : x = y → W p e below s R n0 Q (T.setTop (mkF m pc1 Ls (st)))) (no : x ≠ y → W p e below s R n0 Q (T.setTop (mkF m pc2 Ls (st)))) : W p e below s R n0 Q (T.setTop (mkF m pc Ls (.long y :: .long x :: st))) := by
  have X' := X
  obtain ⟨locs, X, eT, N, hs0, hcl, hsl, hx, hZ, rfl, hml, hown, hnm, hret, hlk⟩ := X
  refine W.of (fun t k => XS.lcmp X.here hx rfl hd rfl k) ?_
  have e1 : pc + 1 = pc' := hp.1
  show W p e below s R n0 Q (T.setTop (mkF m (pc + 1) Ls (.int (if x > y then 1 else if x = y then 0 else -1) :: st)))
  rw [e1]
  refine w_if_eq X' hd2 hp.2 (fun z => yes ?_) (fun z => no ?_)
  all_goals rcases hL2 (x := x) (y := y) with ⟨q1, q2⟩ | ⟨q1, rfl, -⟩ | ⟨q1, q2⟩
  all_goals first | rfl | exact Int.le_refl _ | (exfalso; rw [z] at q1; revert q1; decide) | (exfalso; exact z q1) | (exfalso; rw [q1] at z; revert z; decide) | (intro u; subst u; exact absurd q2 (Int.lt_irrefl _)) | omega
theorem w_lcif_ne (X : Sn Z n0 bs mx own nm ret p l e R s m args below meth c T h cells slots) {x y : Int64} (hd : decode bs pc = .ok (.lcmp, 1)) (hd2 : decode bs pc' = .ok (.ifCond .ne o, 3)) (hp : pc + 1 = pc' ∧ 0 ≤ (pc' : Int) + o ∧ ((pc' : Int) + o).toNat = pc1 ∧ pc' + 3 = pc2)
    (yes : x ≠ y → W p e below s R n0 Q (T.setTop (mkF m pc1 Ls (st)))) (no : x = y → W p e below s R n0 Q (T.setTop (mkF m pc2 Ls (st)))) : W p e below s R n0 Q (T.setTop (mkF m pc Ls (.long y :: .long x :: st))) := by
  have X' := X
  obtain ⟨locs, X, eT, N, hs0, hcl, hsl, hx, hZ, rfl, hml, hown, hnm, hret, hlk⟩ := X
  refine W.of (fun t k => XS.lcmp X.here hx rfl hd rfl k) ?_
  have e1 : pc + 1 = pc' := hp.1
  show W p e below s R n0 Q (T.setTop (mkF m (pc + 1) Ls (.int (if x > y then 1 else if x = y then 0 else -1) :: st)))
  rw [e1]
  refine w_if_ne X' hd2 hp.2 (fun z => yes ?_) (fun z => no ?_)
  all_goals rcases hL2 (x := x) (y := y) with ⟨q1, q2⟩ | ⟨q1, rfl, -⟩ | ⟨q1, q2⟩
  all_goals first | rfl | exact Int.le_refl _ | (exfalso; rw [z] at q1; revert q1; decide) | (exfalso; exact z q1) | (exfalso; rw [q1] at z; revert z; decide) | (intro u; subst u; exact absurd q2 (Int.lt_irrefl _)) | omega
theorem w_lcif_lt (X : Sn Z n0 bs mx own nm ret p l e R s m args below meth c T h cells slots) {x y : Int64} (hd : decode bs pc = .ok (.lcmp, 1)) (hd2 : decode bs pc' = .ok (.ifCond .lt o, 3)) (hp : pc + 1 = pc' ∧ 0 ≤ (pc' : Int) + o ∧ ((pc' : Int) + o).toNat = pc1 ∧ pc' + 3 = pc2)
    (yes : x.toInt < y.toInt → W p e below s R n0 Q (T.setTop (mkF m pc1 Ls (st)))) (no : x.toInt ≥ y.toInt → W p e below s R n0 Q (T.setTop (mkF m pc2 Ls (st)))) : W p e below s R n0 Q (T.setTop (mkF m pc Ls (.long y :: .long x :: st))) := by
  have X' := X
  obtain ⟨locs, X, eT, N, hs0, hcl, hsl, hx, hZ, rfl, hml, hown, hnm, hret, hlk⟩ := X
  refine W.of (fun t k => XS.lcmp X.here hx rfl hd rfl k) ?_
  have e1 : pc + 1 = pc' := hp.1
  show W p e below s R n0 Q (T.setTop (mkF m (pc + 1) Ls (.int (if x > y then 1 else if x = y then 0 else -1) :: st)))
  rw [e1]
  refine w_if_lt X' hd2 hp.2 (fun z => yes ?_) (fun z => no ?_)
  all_goals rcases hL2 (x := x) (y := y) with ⟨q1, q2⟩ | ⟨q1, rfl, -⟩ | ⟨q1, q2⟩
  all_goals first | rfl | exact Int.le_refl _ | (exfalso; rw [z] at q1; revert q1; decide) | (exfalso; exact z q1) | (exfalso; rw [q1] at z; revert z; decide) | (intro u; subst u; exact absurd q2 (Int.lt_irrefl _)) | omega
theorem w_lcif_ge (X : Sn Z n0 bs mx own nm ret p l e R s m args below meth c T h cells slots) {x y : Int64} (hd : decode bs pc = .ok (.lcmp, 1)) (hd2 : decode bs pc' = .ok (.ifCond .ge o, 3)) (hp : pc + 1 = pc' ∧ 0 ≤ (pc' : Int) + o ∧ ((pc' : Int) + o).toNat = pc1 ∧ pc' + 3 = pc2)
    (yes : x.toInt ≥ y.toInt → W p e below s R n0 Q (T.setTop (mkF m pc1 Ls (st)))) (no : x.toInt < y.toInt → W p e below s R n0 Q (T.setTop (mkF m pc2 Ls (st)))) : W p e below s R n0 Q (T.setTop (mkF m pc Ls (.long y :: .long x :: st))) := by
  have X' := X
  obtain ⟨locs, X, eT, N, hs0, hcl, hsl, hx, hZ, rfl, hml, hown, hnm, hret, hlk⟩ := X
  refine W.of (fun t k => XS.lcmp X.here hx rfl hd rfl k) ?_
  have e1 : pc + 1 = pc' := hp.1
  show W p e below s R n0 Q (T.setTop (mkF m (pc + 1) Ls (.int (if x > y then 1 else if x = y then 0 else -1) :: st)))
  rw [e1]
  refine w_if_ge X' hd2 hp.2 (fun z => yes ?_) (fun z => no ?_)
  all_goals rcases hL2 (x := x) (y := y) with ⟨q1, q2⟩ | ⟨q1, rfl, -⟩ | ⟨q1, q2⟩
  all_goals first | rfl | exact Int.le_refl _ | (exfalso; rw [z] at q1; revert q1; decide) | (exfalso; exact z q1) | (exfalso; rw [q1] at z; revert z; decide) | (intro u; subst u; exact absurd q2 (Int.lt_irrefl _)) | omega
theorem w_lcif_gt (X : Sn Z n0 bs mx own nm ret p l e R s m args below meth c T h cells slots) {x y : Int64} (hd : decode bs pc = .ok (.lcmp, 1)) (hd2 : decode bs pc' = .ok (.ifCond .gt o, 3)) (hp : pc + 1 = pc' ∧ 0 ≤ (pc' : Int) + o ∧ ((pc' : Int) + o).toNat = pc1 ∧ pc' + 3 = pc2)
    (yes : x.toInt > y.toInt → W p e below s R n0 Q (T.setTop (mkF m pc1 Ls (st)))) (no : x.toInt ≤ y.toInt → W p e below s R n0 Q (T.setTop (mkF m pc2 Ls (st)))) : W p e below s R n0 Q (T.setTop (mkF m pc Ls (.long y :: .long x :: st))) := by
  have X' := X
  obtain ⟨locs, X, eT, N, hs0, hcl, hsl, hx, hZ, rfl, hml, hown, hnm, hret, hlk⟩ := X
  refine W.of (fun t k => XS.lcmp X.here hx rfl hd rfl k) ?_
  have e1 : pc + 1 = pc' := hp.1
  show W p e below s R n0 Q (T.setTop (mkF m (pc + 1) Ls (.int (if x > y then 1 else if x = y then 0 else -1) :: st)))
  rw [e1]
  refine w_if_gt X' hd2 hp.2 (fun z => yes ?_) (fun z => no ?_)
  all_goals rcases hL2 (x := x) (y := y) with ⟨q1, q2⟩ | ⟨q1, rfl, -⟩ | ⟨q1, q2⟩
  all_goals first | rfl | exact Int.le_refl _ | (exfalso; rw [z] at q1; revert q1; decide) | (exfalso; exact z q1) | (exfalso; rw [q1] at z; revert z; decide) | (intro u; subst u; exact absurd q2 (Int.lt_irrefl _)) | omega
theorem w_lcif_le (X : Sn Z n0 bs mx own nm ret p l e R s m args below meth c T h cells slots) {x y : Int64} (hd : decode bs pc = .ok (.lcmp, 1)) (hd2 : decode bs pc' = .ok (.ifCond .le o, 3)) (hp : pc + 1 = pc' ∧ 0 ≤ (pc' : Int) + o ∧ ((pc' : Int) + o).toNat = pc1 ∧ pc' + 3 = pc2)
    (yes : x.toInt ≤ y.toInt → W p e below s R n0 Q (T.setTop (mkF m pc1 Ls (st)))) (no : x.toInt > y.toInt → W p e below s R n0 Q (T.setTop (mkF m pc2 Ls (st)))) : W p e below s R n0 Q (T.setTop (mkF m pc Ls (.long y :: .long x :: st))) := by
  have X' := X
  obtain ⟨locs, X, eT, N, hs0, hcl, hsl, hx, hZ, rfl, hml, hown, hnm, hret, hlk⟩ := X
  refine W.of (fun t k => XS.lcmp X.here hx rfl hd rfl k) ?_
  have e1 : pc + 1 = pc' := hp.1
  show W p e below s R n0 Q (T.setTop (mkF m (pc + 1) Ls (.int (if x > y then 1 else if x = y then 0 else -1) :: st)))
  rw [e1]
  refine w_if_le X' hd2 hp.2 (fun z => yes ?_) (fun z => no ?_)
  all_goals rcases hL2 (x := x) (y := y) with ⟨q1, q2⟩ | ⟨q1, rfl, -⟩ | ⟨q1, q2⟩
  all_goals first | rfl | exact Int.le_refl _ | (exfalso; rw [z] at q1; revert q1; decide) | (exfalso; exact z q1) | (exfalso; rw [q1] at z; revert z; decide) | (intro u; subst u; exact absurd q2 (Int.lt_irrefl _)) | omega
theorem w_ifnull_ref (X : Sn Z n0 bs mx own nm ret p l e R s m args below meth c T h cells slots) {b : Addr} (hd : decode bs pc = .ok (.ifnull o, 3)) (hp : pc + 3 = pc')
    (w : W p e below s R n0 Q (T.setTop (mkF m pc' Ls (st)))) : W p e below s R n0 Q (T.setTop (mkF m pc Ls (.ref b :: st))) := by
  obtain ⟨locs, X, eT, N, hs0, hcl, hsl, hx, hZ, rfl, hml, hown, hnm, hret, hlk⟩ := X
  subst hp
  exact W.of (fun t k => XS.ifnullNo X.here hx rfl hd rfl k) w
theorem w_ifnull_null (X : Sn Z n0 bs mx own nm ret p l e R s m args below meth c T h cells slots) (hd : decode bs pc = .ok (.ifnull o, 3)) (hp : 0 ≤ (pc : Int) + o ∧ ((pc : Int) + o).toNat = pc')
    (w : W p e below s R n0 Q (T.setTop (mkF m pc' Ls (st)))) : W p e below s R n0 Q (T.setTop (mkF m pc Ls (.null :: st))) := by
  obtain ⟨locs, X, eT, N, hs0, hcl, hsl, hx, hZ, rfl, hml, hown, hnm, hret, hlk⟩ := X
  exact W.of (fun t k => XS.ifnullYes X.here hx rfl rfl hd rfl hp.1 hp.2 k) w
theorem idxOf {j : Int32} {i n : Nat} {cl : Cell} (q : j.toInt = i) (hi : i < n) (hn : cl.slots.size = n) : ¬ (j < 0 ∨ cl.slots.size ≤ j.toNatClampNeg) ∧ j.toNatClampNeg = i := by
  have e : j.toNatClampNeg = i := by simp only [Int32.toNatClampNeg]; omega
  refine ⟨?_, e⟩
  rw [e, hn, Int32.lt_iff_toInt_lt]
  have : (0 : Int32).toInt = 0 := rfl
  omega
theorem w_iaload (X : Sn Z n0 bs mx own nm ret p l e R s m args below meth c T h cells slots) {a : Addr} {n i : Nat} {f : Nat → Value} {j : Int32} {v : Value} (F : AF Z h a .int n f) (hd : decode bs pc = .ok (.iaload, 1)) (hj : j.toInt = i) (hi : i < n) (hv : f i = v) (hp : pc + 1 = pc')
    (w : W p e below s R n0 Q (T.setTop (mkF m pc' Ls (v :: st)))) : W p e below s R n0 Q (T.setTop (mkF m pc Ls (.int j :: .ref a :: st))) := by
  obtain ⟨locs, X, eT, N, hs0, hcl, hsl, hx, hZ, rfl, hml, hown, hnm, hret, hlk⟩ := X
  obtain ⟨cl, A, r1, r2, r3⟩ := F
  obtain ⟨q1, q2⟩ := idxOf (cl := cl) hj hi r1
  subst hp hv eT
  exact W.of (fun t k => X.iaload hx (j := j) (v := f i) A.1 (State.isArrayOf_alike hZ.alike A.2.1) A.2.2 q1 (by rw [q2]; exact r3 i hi) (g := mkF m pc Ls (.int j :: .ref a :: st)) rfl rfl hd _ k) w
theorem w_laload (X : Sn Z n0 bs mx own nm ret p l e R s m args below meth c T h cells slots) {a : Addr} {n i : Nat} {f : Nat → Value} {j : Int32} {v : Value} (F : AF Z h a .long n f) (hd : decode bs pc = .ok (.laload, 1)) (hj : j.toInt = i) (hi : i < n) (hv : f i = v) (hp : pc + 1 = pc')
    (w : W p e below s R n0 Q (T.setTop (mkF m pc' Ls (v :: st)))) : W p e below s R n0 Q (T.setTop (mkF m pc Ls (.int j :: .ref a :: st))) := by
  obtain ⟨locs, X, eT, N, hs0, hcl, hsl, hx, hZ, rfl, hml, hown, hnm, hret, hlk⟩ := X
  obtain ⟨cl, A, r1, r2, r3⟩ := F
  obtain ⟨q1, q2⟩ := idxOf (cl := cl) hj hi r1
  subst hp hv eT
  exact W.of (fun t k => X.laload hx (j := j) (v := f i) A.1 (State.isArrayOf_alike hZ.alike A.2.1) A.2.2 q1 (by rw [q2]; exact r3 i hi) (g := mkF m pc Ls (.int j :: .ref a :: st)) rfl rfl hd _ k) w
theorem w_baloadB (X : Sn Z n0 bs mx own nm ret p l e R s m args below meth c T h cells slots) {a : Addr} {n i : Nat} {f : Nat → Value} {j : Int32} {v : Value} (F : AF Z h a .byte n f) (hd : decode bs pc = .ok (.baload, 1)) (hj : j.toInt = i) (hi : i < n) (hv : f i = v) (hp : pc + 1 = pc')
    (w : W p e below s R n0 Q (T.setTop (mkF m pc' Ls (v :: st)))) : W p e below s R n0 Q (T.setTop (mkF m pc Ls (.int j :: .ref a :: st))) := by
  obtain ⟨locs, X, eT, N, hs0, hcl, hsl, hx, hZ, rfl, hml, hown, hnm, hret, hlk⟩ := X
  obtain ⟨cl, A, r1, r2, r3⟩ := F
  obtain ⟨q1, q2⟩ := idxOf (cl := cl) hj hi r1
  subst hp hv eT
  exact W.of (fun t k => X.baloadBytes hx (j := j) (v := f i) A.1 (State.isArrayOf_alike hZ.alike A.2.1) A.2.2 q1 (by rw [q2]; exact r3 i hi) (g := mkF m pc Ls (.int j :: .ref a :: st)) rfl rfl hd _ k) w
theorem w_baloadZ (X : Sn Z n0 bs mx own nm ret p l e R s m args below meth c T h cells slots) {a : Addr} {n i : Nat} {f : Nat → Value} {j : Int32} {v : Value} (F : AF Z h a .boolean n f) (hd : decode bs pc = .ok (.baload, 1)) (hj : j.toInt = i) (hi : i < n) (hv : f i = v) (hp : pc + 1 = pc')
    (w : W p e below s R n0 Q (T.setTop (mkF m pc' Ls (v :: st)))) : W p e below s R n0 Q (T.setTop (mkF m pc Ls (.int j :: .ref a :: st))) := by
  obtain ⟨locs, X, eT, N, hs0, hcl, hsl, hx, hZ, rfl, hml, hown, hnm, hret, hlk⟩ := X
  obtain ⟨cl, A, r1, r2, r3⟩ := F
  obtain ⟨q1, q2⟩ := idxOf (cl := cl) hj hi r1
  subst hp hv eT
  exact W.of (fun t k => X.baloadBooleans hx (j := j) (v := f i) A.1 (State.isArrayOf_alike hZ.alike A.2.1) A.2.2 q1 (by rw [q2]; exact r3 i hi) (g := mkF m pc Ls (.int j :: .ref a :: st)) rfl rfl hd _ k) w
theorem w_iastore (X : Sn Z n0 bs mx own nm ret p l e R s m args below meth c T h cells slots) {a : Addr} {n i : Nat} {f : Nat → Value} {j : Int32} {x : Int32} (F : AF Z h a .int n f) (hd : decode bs pc = .ok (.iastore, 1)) (hj : j.toInt = i) (hi : i < n) (hp : pc + 1 = pc') (ha : n0 ≤ a)
    (w : ∀ T' h', Sn Z n0 bs mx own nm ret p l e R s m args below meth c T' h' cells slots → Wr h h' a i (.int x) → W p e below s R n0 Q (T'.setTop (mkF m pc' Ls (st)))) : W p e below s R n0 Q (T.setTop (mkF m pc Ls (.int x :: .int j :: .ref a :: st))) := by
  obtain ⟨locs, X, eT, N, hs0, hcl, hsl, hx, hZ, rfl, hml, hown, hnm, hret, hlk⟩ := X
  obtain ⟨cl, A, r1, r2, r3⟩ := F
  obtain ⟨q1, q2⟩ := idxOf (cl := cl) hj hi r1
  subst hp
  obtain ⟨T', h', X', e', W', st'⟩ := stI X hx hZ eT A (j := j) q1 (g := mkF m pc Ls (.int x :: .int j :: .ref a :: st)) rfl rfl hd
  rw [q2] at X' W'
  exact W.of st' (w T' h' ⟨_, X', e', Fr.snoc X' N ha, by rw [W'.size]; exact hs0, hcl, hsl, hx, hZ, rfl, hml, hown, hnm, hret, hlk⟩ W')
theorem w_lastore (X : Sn Z n0 bs mx own nm ret p l e R s m args below meth c T h cells slots) {a : Addr} {n i : Nat} {f : Nat → Value} {j : Int32} {x : Int64} (F : AF Z h a .long n f) (hd : decode bs pc = .ok (.lastore, 1)) (hj : j.toInt = i) (hi : i < n) (hp : pc + 1 = pc') (ha : n0 ≤ a)
    (w : ∀ T' h', Sn Z n0 bs mx own nm ret p l e R s m args below meth c T' h' cells slots → Wr h h' a i (.long x) → W p e below s R n0 Q (T'.setTop (mkF m pc' Ls (st)))) : W p e below s R n0 Q (T.setTop (mkF m pc Ls (.long x :: .int j :: .ref a :: st))) := by
  obtain ⟨locs, X, eT, N, hs0, hcl, hsl, hx, hZ, rfl, hml, hown, hnm, hret, hlk⟩ := X
  obtain ⟨cl, A, r1, r2, r3⟩ := F
  obtain ⟨q1, q2⟩ := idxOf (cl := cl) hj hi r1
  subst hp
  obtain ⟨T', h', X', e', W', st'⟩ := stJ X hx hZ eT A (j := j) q1 (g := mkF m pc Ls (.long x :: .int j :: .ref a :: st)) rfl rfl hd
  rw [q2] at X' W'
  exact W.of st' (w T' h' ⟨_, X', e', Fr.snoc X' N ha, by rw [W'.size]; exact hs0, hcl, hsl, hx, hZ, rfl, hml, hown, hnm, hret, hlk⟩ W')
theorem w_bastoreB (X : Sn Z n0 bs mx own nm ret p l e R s m args below meth c T h cells slots) {a : Addr} {n i : Nat} {f : Nat → Value} {j : Int32} {x : Int32} (F : AF Z h a .byte n f) (hd : decode bs pc = .ok (.bastore, 1)) (hj : j.toInt = i) (hi : i < n) (hp : pc + 1 = pc') (ha : n0 ≤ a)
    (w : ∀ T' h', Sn Z n0 bs mx own nm ret p l e R s m args below meth c T' h' cells slots → Wr h h' a i (.int (x.toInt8.toInt32)) → W p e below s R n0 Q (T'.setTop (mkF m pc' Ls (st)))) : W p e below s R n0 Q (T.setTop (mkF m pc Ls (.int x :: .int j :: .ref a :: st))) := by
  obtain ⟨locs, X, eT, N, hs0, hcl, hsl, hx, hZ, rfl, hml, hown, hnm, hret, hlk⟩ := X
  obtain ⟨cl, A, r1, r2, r3⟩ := F
  obtain ⟨q1, q2⟩ := idxOf (cl := cl) hj hi r1
  subst hp
  obtain ⟨T', h', X', e', W', st'⟩ := stB X hx hZ eT A (j := j) q1 (g := mkF m pc Ls (.int x :: .int j :: .ref a :: st)) rfl rfl hd
  rw [q2] at X' W'
  exact W.of st' (w T' h' ⟨_, X', e', Fr.snoc X' N ha, by rw [W'.size]; exact hs0, hcl, hsl, hx, hZ, rfl, hml, hown, hnm, hret, hlk⟩ W')
theorem w_bastoreZ (X : Sn Z n0 bs mx own nm ret p l e R s m args below meth c T h cells slots) {a : Addr} {n i : Nat} {f : Nat → Value} {j : Int32} {x : Int32} (F : AF Z h a .boolean n f) (hd : decode bs pc = .ok (.bastore, 1)) (hj : j.toInt = i) (hi : i < n) (hp : pc + 1 = pc') (ha : n0 ≤ a)
    (w : ∀ T' h', Sn Z n0 bs mx own nm ret p l e R s m args below meth c T' h' cells slots → Wr h h' a i (.int (x &&& 1)) → W p e below s R n0 Q (T'.setTop (mkF m pc' Ls (st)))) : W p e below s R n0 Q (T.setTop (mkF m pc Ls (.int x :: .int j :: .ref a :: st))) := by
  obtain ⟨locs, X, eT, N, hs0, hcl, hsl, hx, hZ, rfl, hml, hown, hnm, hret, hlk⟩ := X
  obtain ⟨cl, A, r1, r2, r3⟩ := F
  obtain ⟨q1, q2⟩ := idxOf (cl := cl) hj hi r1
  subst hp
  obtain ⟨T', h', X', e', W', st'⟩ := stZ X hx hZ eT A (j := j) q1 (g := mkF m pc Ls (.int x :: .int j :: .ref a :: st)) rfl rfl hd
  rw [q2] at X' W'
  exact W.of st' (w T' h' ⟨_, X', e', Fr.snoc X' N ha, by rw [W'.size]; exact hs0, hcl, hsl, hx, hZ, rfl, hml, hown, hnm, hret, hlk⟩ W')
theorem w_arraylength (X : Sn Z n0 bs mx own nm ret p l e R s m args below meth c T h cells slots) {a : Addr} {ty : FieldType} {n : Nat} {f : Nat → Value} {z : Int32} (F : AF Z h a ty n f) (hd : decode bs pc = .ok (.arraylength, 1)) (hz : z.toInt = n) (hp : pc + 1 = pc')
    (w : W p e below s R n0 Q (T.setTop (mkF m pc' Ls (.int z :: st)))) : W p e below s R n0 Q (T.setTop (mkF m pc Ls (.ref a :: st))) := by
  obtain ⟨locs, X, eT, N, hs0, hcl, hsl, hx, hZ, rfl, hml, hown, hnm, hret, hlk⟩ := X
  obtain ⟨cl, A, r1, r2, r3⟩ := F
  subst hp eT
  have e1 : cl.slots.size.toInt32 = z := Int32.toInt_inj.mp (by rw [len_toInt (by rw [r1]; exact r2), hz, r1])
  rw [← e1] at w
  exact W.of (fun t k => X.arraylength hx A.1 (State.isArrayOf_alike hZ.alike A.2.1) (g := mkF m pc Ls (.ref a :: st)) rfl rfl hd _ k) w
theorem w_newarray (X : Sn Z n0 bs mx own nm ret p l e R s m args below meth c T h cells slots) {aty : ArrayType} {z : Int32} {n cap : Nat} (hd : decode bs pc = .ok (.newarray aty, 2)) (w0 : (Cond.arrayClass (newarray.typeOf aty)).before a0 Z = true) (hz : z.toInt = n) (hcap : n ≤ cap) (hr : cap * 8 ≤ 536870912 ∧ cells + 1 ≤ R.cells ∧ slots + cap ≤ R.slots ∧ pc + 2 = pc')
    (w : ∀ T' h' b, Sn Z n0 bs mx own nm ret p l e R s m args below meth c T' h' (cells + 1) (slots + cap) → Ext h h' → b = h.size → n0 ≤ b → AF Z h' b (newarray.typeOf aty) n (fun _ => defaultValue (newarray.typeOf aty)) → W p e below s R n0 Q (T'.setTop (mkF m pc' Ls (.ref b :: st)))) : W p e below s R n0 Q (T.setTop (mkF m pc Ls (.int z :: st))) := by
  obtain ⟨locs, X, eT, N, hs0, hcl, hsl, hx, hZ, rfl, hml, hown, hnm, hret, hlk⟩ := X
  have hn : ¬ z < 0 := by rw [Int32.lt_iff_toInt_lt]; have : (0 : Int32).toInt = 0 := rfl; omega
  obtain ⟨T', h', cA, X', e', E', A', st'⟩ := newP X hx hZ w0 eT (g := mkF m pc Ls (.int z :: st)) rfl hd rfl hn (cap := cap) (by simp only [Int32.toNatClampNeg]; omega) hr.1 hr.2.1 hr.2.2.1
  obtain ⟨-, hr2, hr3, hp⟩ := hr
  subst hp
  exact W.of st' (w T' h' _ ⟨_, X', e', N, Nat.le_trans hs0 E'.1, hr2, hr3, hx, hZ, rfl, hml, hown, hnm, hret, hlk⟩ E' rfl hs0 (AF.new A' hz))
theorem w_ireturn (X : Sn Z n0 bs mx own nm ret p l e R s m args below meth c T h cells slots) {v : Int32} (hd : decode bs pc = .ok (.ireturn, 1)) (hq : ret = some .int) (q : Q (some (.int v)) h) : W p e below s R n0 Q (T.setTop (mkF m pc Ls (.int v :: st))) := by
  obtain ⟨locs, X, eT, N, hs0, hcl, hsl, hx, hZ, rfl, hml, hown, hnm, hret, hlk⟩ := X
  obtain ⟨fs, hr, hrun, hended, hW, hsame⟩ := X.leave (v := some (.int v)) (fun u => by rw [hret, hq] at u; cases u) hlk
  exact ⟨_, _, retOut X hx (hret.trans hq) rfl (Or.inl ⟨rfl, Or.inl rfl, _, rfl⟩) hd hr, hrun, hended, _, locs, rfl, ⟨N, by rw [← eT] at hs0; exact hs0, by rw [← eT] at q; exact q⟩, ⟨_, rfl⟩, hW, hsame.mono hcl hsl⟩
theorem w_lreturn (X : Sn Z n0 bs mx own nm ret p l e R s m args below meth c T h cells slots) {v : Int64} (hd : decode bs pc = .ok (.lreturn, 1)) (hq : ret = some .long) (q : Q (some (.long v)) h) : W p e below s R n0 Q (T.setTop (mkF m pc Ls (.long v :: st))) := by
  obtain ⟨locs, X, eT, N, hs0, hcl, hsl, hx, hZ, rfl, hml, hown, hnm, hret, hlk⟩ := X
  obtain ⟨fs, hr, hrun, hended, hW, hsame⟩ := X.leave (v := some (.long v)) (fun u => by rw [hret, hq] at u; cases u) hlk
  exact ⟨_, _, retOut X hx (hret.trans hq) rfl (Or.inr (Or.inl ⟨rfl, rfl, _, rfl⟩)) hd hr, hrun, hended, _, locs, rfl, ⟨N, by rw [← eT] at hs0; exact hs0, by rw [← eT] at q; exact q⟩, ⟨_, rfl⟩, hW, hsame.mono hcl hsl⟩
theorem w_areturn (X : Sn Z n0 bs mx own nm ret p l e R s m args below meth c T h cells slots) {v : Value} {t : FieldType} (hd : decode bs pc = .ok (.areturn, 1)) (hq : ret = some t) (ht : t.isReference = true) (hv : v.isRef = true) (hn : narrow t v = v) (q : Q (some v) h) : W p e below s R n0 Q (T.setTop (mkF m pc Ls (v :: st))) := by
  obtain ⟨locs, X, eT, N, hs0, hcl, hsl, hx, hZ, rfl, hml, hown, hnm, hret, hlk⟩ := X
  obtain ⟨fs, hr, hrun, hended, hW, hsame⟩ := X.leave (v := some v) (fun u => by rw [hret, hq] at u; cases u) hlk
  exact ⟨_, _, retOut X hx (hret.trans hq) hn (Or.inr (Or.inr (Or.inr (Or.inr ⟨rfl, ht, hv⟩)))) hd hr, hrun, hended, _, locs, rfl, ⟨N, by rw [← eT] at hs0; exact hs0, by rw [← eT] at q; exact q⟩, ⟨_, rfl⟩, hW, hsame.mono hcl hsl⟩
theorem w_nreturn (X : Sn Z n0 bs mx own nm ret p l e R s m args below meth c T h cells slots) {v : Int32} {t : FieldType} (hd : decode bs pc = .ok (.ireturn, 1)) (hq : ret = some t) (ht : t = .boolean ∨ t = .byte ∨ t = .char ∨ t = .short) (q : Q (some (.int (nar t v))) h) : W p e below s R n0 Q (T.setTop (mkF m pc Ls (.int v :: st))) := by
  obtain ⟨locs, X, eT, N, hs0, hcl, hsl, hx, hZ, rfl, hml, hown, hnm, hret, hlk⟩ := X
  obtain ⟨fs, hr, hrun, hended, hW, hsame⟩ := X.leave (v := some (.int (nar t v))) (fun u => by rw [hret, hq] at u; cases u) hlk
  exact ⟨_, _, retN X hx (hret.trans hq) ht hd hr, hrun, hended, _, locs, rfl, ⟨N, by rw [← eT] at hs0; exact hs0, by rw [← eT] at q; exact q⟩, ⟨_, rfl⟩, hW, hsame.mono hcl hsl⟩
theorem w_return (X : Sn Z n0 bs mx own nm ret p l e R s m args below meth c T h cells slots) (hd : decode bs pc = .ok (.return_, 1)) (hq : ret = none) (q : Q (none) h) : W p e below s R n0 Q (T.setTop (mkF m pc Ls ([]))) := by
  obtain ⟨locs, X, eT, N, hs0, hcl, hsl, hx, hZ, rfl, hml, hown, hnm, hret, hlk⟩ := X
  obtain ⟨fs, hr, hrun, hended, hW, hsame⟩ := X.leave (v := none) (fun _ => rfl) hlk
  exact ⟨_, _, X.returnOut hx (hret.trans hq) hd hr, hrun, hended, _, locs, rfl, ⟨N, by rw [← eT] at hs0; exact hs0, by rw [← eT] at q; exact q⟩, ⟨_, rfl⟩, hW, hsame.mono hcl hsl⟩
theorem w_callS (X : Sn Z n0 bs mx own nm ret p l e R s m args below meth c T h cells slots) {index : Nat} {y : MethodName} {b2 : ByteArray} {m2 : Nat} {r2 : Option FieldType} {R2 : Room} {argsL rest : List Value} {wd : Nat} {ps : List FieldType} {r3 : Option FieldType} {Q2 : Option Value → Heap → Prop} 
    (hd : decode bs pc = .ok (.invokestatic index, 3)) (w1 : (Cond.methodLink own index y).before a0 Z = true) (w2 : (Cond.static y).before a0 Z = true) (w3 : (Cond.initialized y.cls).before a0 Z = true) (w4 : (Cond.code y b2 m2 r2).before a0 Z = true)
    (hy : y.cls ≠ "java/lang/invoke/MethodHandle" ∧ y.cls ≠ "java/lang/invoke/VarHandle") (C : Ct l Z y b2 m2 r2 [] R2 argsL.toArray h n0 Q2) (hpd : parseMethodDescriptor y.desc = some ⟨ps, r3⟩) (hlen : argsL.length = ps.length)
    (hst : st = argsL.reverse ++ rest) (hsz : Ls.size = mx) (hwd : (rest.map fun v => v.category).sum ≤ wd) (hr : R2.frames + 1 ≤ R.frames ∧ wd + (m2 + 11) + R2.locals ≤ R.locals ∧ cells + R2.cells ≤ R.cells ∧ slots + R2.slots ≤ R.slots ∧ pc + 3 = pc')
    (w : ∀ v T' h', Sn Z n0 bs mx own nm ret p l e R s m args below meth c T' h' (cells + R2.cells) (slots + R2.slots) → Q2 v h' → W p e below s R n0 Q (T'.setTop (mkF m pc' Ls (v.toList ++ rest)))) : W p e below s R n0 Q (T.setTop (mkF m pc Ls (st))) := by
  obtain ⟨locs, X, eT, N, hs0, hcl, hsl, hx, hZ, rfl, hml, hown, hnm, hret, hlk⟩ := X
  obtain ⟨hr1, hr2, hr3, hr4, hp⟩ := hr
  obtain ⟨v, vm1, ⟨T', L', k', n'⟩, -, X', ⟨Lc, hQ, l', y', z'⟩, st'⟩ := Jvm.LawKit.callS X hx (y := y) hown (mvT hZ w1) (mvT hZ w2) (mvT hZ w3) (mvT hZ w4) hy (backOf (W := wd) (Q := Qc n0 Q2) C hZ w4 w3 hr1 hr2) (g := mkF m pc Ls st) rfl (hsz.trans hml.symm) (argsL := argsL) (rest := rest) (lenOf hpd hlen) hst (by show 2 * 0 + _ ≤ _; omega) hd (fun _ _ => ⟨rfl, eT, hr3, hr4⟩)
  dsimp only [Pt.U, Pt.locs, Pt.cells, Pt.slots] at X' l' y' z' st' hQ
  subst l' y' z' hp
  exact W.of st' (w v T' T'.heap ⟨_, X', rfl, Fr.app N hQ.1, hQ.2.1, hr3, hr4, hx, hZ, rfl, hml, hown, hnm, hret, hlk⟩ hQ.2.2)
theorem w_callC (X : Sn Z n0 bs mx own nm ret p l e R s m args below meth c T h cells slots) {index : Nat} {y : MethodName} {b2 : ByteArray} {m2 : Nat} {R2 : Room} {argsL rest : List Value} {wd : Nat} {ps : List FieldType} {r3 : Option FieldType} {Q2 : Option Value → Heap → Prop} {a : Addr} (hy1 : y.name = "<init>")
    (hd : decode bs pc = .ok (.invokespecial index, 3)) (w1 : (Cond.methodLink own index y).before a0 Z = true) (w2 : (Cond.instanceMethod y).before a0 Z = true) (w3 : (Cond.initialized y.cls).before a0 Z = true) (w4 : (Cond.code y b2 m2 none).before a0 Z = true)
    (hy : y.cls ≠ "java/lang/invoke/MethodHandle" ∧ y.cls ≠ "java/lang/invoke/VarHandle") (C : Ct l Z y b2 m2 none [] R2 (.ref a :: argsL).toArray h n0 Q2) (hpd : parseMethodDescriptor y.desc = some ⟨ps, r3⟩) (hlen : argsL.length = ps.length)
    (hst : st = argsL.reverse ++ .ref a :: rest) (hsz : Ls.size = mx) (hwd : (rest.map fun v => v.category).sum ≤ wd) (hr : R2.frames + 1 ≤ R.frames ∧ wd + (m2 + 11) + R2.locals ≤ R.locals ∧ cells + R2.cells ≤ R.cells ∧ slots + R2.slots ≤ R.slots ∧ pc + 3 = pc')
    (w : ∀ v T' h', Sn Z n0 bs mx own nm ret p l e R s m args below meth c T' h' (cells + R2.cells) (slots + R2.slots) → Q2 v h' → W p e below s R n0 Q (T'.setTop (mkF m pc' Ls (v.toList ++ rest)))) : W p e below s R n0 Q (T.setTop (mkF m pc Ls (st))) := by
  obtain ⟨locs, X, eT, N, hs0, hcl, hsl, hx, hZ, rfl, hml, hown, hnm, hret, hlk⟩ := X
  obtain ⟨hr1, hr2, hr3, hr4, hp⟩ := hr
  obtain ⟨v, vm1, ⟨T', L', k', n'⟩, -, X', ⟨Lc, hQ, l', y', z'⟩, st'⟩ := X.specialBack hx (y := y) hy1 hown (mvT hZ w1) (mvT hZ w2) (mvT hZ w4) hy (backOf (W := wd) (Q := Qc n0 Q2) C hZ w4 w3 hr1 hr2) (g := mkF m pc Ls st) rfl (hsz.trans hml.symm) (Steps.refl _) (a := a) (argsL := argsL) (rest := rest) (lenOf hpd hlen) hst (by show 2 * 0 + _ ≤ _; omega) hd (fun _ _ => ⟨rfl, eT, hr3, hr4⟩)
  dsimp only [Pt.U, Pt.locs, Pt.cells, Pt.slots] at X' l' y' z' st' hQ
  subst l' y' z' hp
  exact W.fwd st' (w v T' T'.heap ⟨_, X', rfl, Fr.app N hQ.1, hQ.2.1, hr3, hr4, hx, hZ, rfl, hml, hown, hnm, hret, hlk⟩ hQ.2.2)
theorem w_callV (X : Sn Z n0 bs mx own nm ret p l e R s m args below meth c T h cells slots) {index : Nat} {y : MethodName} {b2 : ByteArray} {m2 : Nat} {r2 : Option FieldType} {R2 : Room} {argsL rest : List Value} {wd : Nat} {ps : List FieldType} {r3 : Option FieldType} {Q2 : Option Value → Heap → Prop} {a : Addr} {K : String} (E : Exa Z h a K)
    (hd : decode bs pc = .ok (.invokevirtual index, 3)) (w1 : (Cond.methodLink own index y).before a0 Z = true) (wd0 : (Cond.declares y).before a0 Z = true) (ws0 : (Cond.selects K y y).before a0 Z = true) (w2 : (Cond.instanceMethod y).before a0 Z = true) (w3 : (Cond.initialized y.cls).before a0 Z = true) (w4 : (Cond.code y b2 m2 r2).before a0 Z = true)
    (hy : y.cls ≠ "java/lang/invoke/MethodHandle" ∧ y.cls ≠ "java/lang/invoke/VarHandle") (C : Ct l Z y b2 m2 r2 [] R2 (.ref a :: argsL).toArray h n0 Q2) (hpd : parseMethodDescriptor y.desc = some ⟨ps, r3⟩) (hlen : argsL.length = ps.length)
    (hst : st = argsL.reverse ++ .ref a :: rest) (hsz : Ls.size = mx) (hwd : (rest.map fun v => v.category).sum ≤ wd) (hr : R2.frames + 1 ≤ R.frames ∧ wd + (m2 + 11) + R2.locals ≤ R.locals ∧ cells + R2.cells ≤ R.cells ∧ slots + R2.slots ≤ R.slots ∧ pc + 3 = pc')
    (w : ∀ v T' h', Sn Z n0 bs mx own nm ret p l e R s m args below meth c T' h' (cells + R2.cells) (slots + R2.slots) → Q2 v h' → W p e below s R n0 Q (T'.setTop (mkF m pc' Ls (v.toList ++ rest)))) : W p e below s R n0 Q (T.setTop (mkF m pc Ls (st))) := by
  obtain ⟨locs, X, eT, N, hs0, hcl, hsl, hx, hZ, rfl, hml, hown, hnm, hret, hlk⟩ := X
  obtain ⟨hr1, hr2, hr3, hr4, hp⟩ := hr
  obtain ⟨cq, kq, qa, qb, qc⟩ := isOf hZ eT E
  obtain ⟨v, vm1, ⟨T', L', k', n'⟩, -, X', ⟨Lc, hQ, l', y', z'⟩, st'⟩ := X.virtualBack hx (y := y) (z := y) hown (mvT hZ w1) (mvT hZ wd0) (notFace_of_selects (args := #[]) (mvT hZ ws0)) (mvT hZ ws0) (mvT hZ w2) hy (backOf (W := wd) (Q := Qc n0 Q2) C hZ w4 w3 hr1 hr2) qa qc (g := mkF m pc Ls st) rfl (hsz.trans hml.symm) (Steps.refl _) (argsL := argsL) (rest := rest) (lenOf hpd hlen) hst (by show 2 * 0 + _ ≤ _; omega) hd (fun _ _ => ⟨rfl, eT, hr3, hr4⟩)
  dsimp only [Pt.U, Pt.locs, Pt.cells, Pt.slots] at X' l' y' z' st' hQ
  subst l' y' z' hp
  exact W.fwd st' (w v T' T'.heap ⟨_, X', rfl, Fr.app N hQ.1, hQ.2.1, hr3, hr4, hx, hZ, rfl, hml, hown, hnm, hret, hlk⟩ hQ.2.2)
theorem w_initO (X : Sn Z n0 bs mx own nm ret p l e R s m args below meth c T h cells slots) {idx : Nat} {a : Addr} {wd : Nat} (hd : decode bs pc = .ok (.invokespecial idx, 3)) (w1 : (Cond.methodLink own idx Lib.objectInit).before a0 Z = true) (w2 : (Cond.instanceMethod Lib.objectInit).before a0 Z = true) (w3 : (Cond.code Lib.objectInit ⟨#[0xb1]⟩ 1 none).before a0 Z = true)
    (hsz : Ls.size = mx) (hwd : (st.map fun v => v.category).sum ≤ wd) (hr : 1 ≤ R.frames ∧ wd + 12 ≤ R.locals ∧ pc + 3 = pc') (w : ∀ T', Sn Z n0 bs mx own nm ret p l e R s m args below meth c T' h cells slots → W p e below s R n0 Q (T'.setTop (mkF m pc' Ls (st)))) : W p e below s R n0 Q (T.setTop (mkF m pc Ls (.ref a :: st))) := by
  obtain ⟨locs, X, eT, N, hs0, hcl, hsl, hx, hZ, rfl, hml, hown, hnm, hret, hlk⟩ := X
  obtain ⟨hr1, hr2, hp⟩ := hr
  subst hp
  obtain ⟨T', X', e', st'⟩ := initO X hx hZ hown w1 w2 w3 eT (g := mkF m pc Ls (.ref a :: st)) rfl (hsz.trans hml.symm) rfl hd hr1 (W := wd) (by show 2 * 0 + _ ≤ _; omega) hr2
  exact W.of st' (w T' ⟨_, X', e', N, hs0, hcl, hsl, hx, hZ, rfl, hml, hown, hnm, hret, hlk⟩)
theorem w_getfield (X : Sn Z n0 bs mx own nm ret p l e R s m args below meth c T h cells slots) {R0 O n d : String} {index : Nat} {a : Addr} {v : Value} (F : Fld Z h a O n d v) (hd : decode bs pc = .ok (.getfield index, 3)) (w1 : (Cond.fieldLink own index R0 n d).before a0 Z = true) (via : Via Z R0 O n d) (hp : pc + 3 = pc')
    (w : ∀ T', Sn Z n0 bs mx own nm ret p l e R s m args below meth c T' h cells slots → W p e below s R n0 Q (T'.setTop (mkF m pc' Ls (v :: st)))) : W p e below s R n0 Q (T.setTop (mkF m pc Ls (.ref a :: st))) := by
  obtain ⟨locs, X, eT, N, hs0, hcl, hsl, hx, hZ, rfl, hml, hown, hnm, hret, hlk⟩ := X
  subst hp
  obtain ⟨T', X', e', st'⟩ := getF X hx hZ hown (host := "") (Or.inl w1) via eT F (g := mkF m pc Ls (.ref a :: st)) rfl rfl hd
  exact W.of st' (w T' ⟨_, X', e', N, hs0, hcl, hsl, hx, hZ, rfl, hml, hown, hnm, hret, hlk⟩)
theorem w_putfield (X : Sn Z n0 bs mx own nm ret p l e R s m args below meth c T h cells slots) {R0 O n d K : String} {index kk : Nat} {ty : FieldType} {a : Addr} {v v' old : Value} (F : Fld Z h a O n d old) (E : Exa Z h a K) (hd : decode bs pc = .ok (.putfield index, 3)) (w1 : (Cond.fieldLink own index R0 n d).before a0 Z = true) (via : Via Z R0 O n d)
    (L : (Cond.lays K O n d).before a0 Z = true ∨ ((Cond.laysFinal K O n d).before a0 Z = true ∧ own = O ∧ nm = "<init>")) (wi : (Cond.instantiable K kk).before a0 Z = true) (hty : parseFieldDescriptor d = some ty) (hn : narrow ty v = v') (hf : fits ty v' = true) (hp : pc + 3 = pc') (ha : n0 ≤ a)
    (w : ∀ T' h', Sn Z n0 bs mx own nm ret p l e R s m args below meth c T' h' cells slots → Wr h h' a (Jvm.RoadKit.slotOf Z O n d) v' → W p e below s R n0 Q (T'.setTop (mkF m pc' Ls (st)))) : W p e below s R n0 Q (T.setTop (mkF m pc Ls (v :: .ref a :: st))) := by
  obtain ⟨locs, X, eT, N, hs0, hcl, hsl, hx, hZ, rfl, hml, hown, hnm, hret, hlk⟩ := X
  subst hp
  obtain ⟨T', h', X', e', W', st'⟩ := putFN X hx hZ hown w1 via eT F E (L.imp id fun q => ⟨q.1, q.2.1, hnm.trans q.2.2⟩) wi hty hn hf (g := mkF m pc Ls (v :: .ref a :: st)) rfl rfl hd
  exact W.of st' (w T' h' ⟨_, X', e', Fr.snoc X' N ha, by rw [W'.size]; exact hs0, hcl, hsl, hx, hZ, rfl, hml, hown, hnm, hret, hlk⟩ W')
theorem w_new (X : Sn Z n0 bs mx own nm ret p l e R s m args below meth c T h cells slots) {K : String} {index kk : Nat} (hd : decode bs pc = .ok (.new index, 3)) (w1 : (Cond.classLink own index K).before a0 Z = true) (wi : (Cond.instantiable K kk).before a0 Z = true) (wz : (Cond.initialized K).before a0 Z = true) (hr : cells + 1 ≤ R.cells ∧ slots + kk ≤ R.slots ∧ pc + 3 = pc')
    (w : ∀ T' h' b, Sn Z n0 bs mx own nm ret p l e R s m args below meth c T' h' (cells + 1) (slots + kk) → Ext h h' → b = h.size → n0 ≤ b → Exa Z h' b K → (∀ {O nm d : String} {ty : FieldType}, Laid Z a0 K O nm d → parseFieldDescriptor d = some ty → Fld Z h' b O nm d (defaultValue ty)) → W p e below s R n0 Q (T'.setTop (mkF m pc' Ls (.ref b :: st)))) : W p e below s R n0 Q (T.setTop (mkF m pc Ls (st))) := by
  obtain ⟨locs, X, eT, N, hs0, hcl, hsl, hx, hZ, rfl, hml, hown, hnm, hret, hlk⟩ := X
  obtain ⟨hr1, hr2, hp⟩ := hr
  subst hp
  obtain ⟨T', h', X', e', E', A', D', -, st'⟩ := newO X hx hZ hown w1 wi wz eT (g := mkF m pc Ls st) rfl hd hr1 hr2
  exact W.of st' (w T' h' _ ⟨_, X', e', N, Nat.le_trans hs0 E'.1, hr1, hr2, hx, hZ, rfl, hml, hown, hnm, hret, hlk⟩ E' rfl hs0 A' D')
end
end Jvm.OwnW
namespace Jvm.Pilot.@@N@@
open Jvm Jvm.ClassFile Sem Op Lib Jvm.Free Jvm.Stand Jvm.LawKit Jvm.RoadKit Bundle Jvm.OwnW Jvm.Pilot.@@N@@.Jvm.D

def own_val (v : Int64) : Int32 := if v = 0 then 1 else 0
def own_pick (v : Int64) (sel : Int32) : Int64 := if sel &&& 3 = 0 then 0 else if sel &&& 3 = 1 then ((isr sel 2 &&& 3) - 2).toInt64 else v
theorem own_z {n : Int64} (h1 : n.toInt < 1) (h2 : n.toInt > -1) : n = 0 := Int64.toInt_inj.mp (by have : (0 : Int64).toInt = 0 := rfl; omega)
theorem own_nz {n : Int64} (h : n.toInt ≥ 1 ∨ n.toInt ≤ -1) : n ≠ 0 := fun z => by subst z; have : (0 : Int64).toInt = 0 := rfl; omega

theorem d1_0 : decode method_2_code 0 = .ok (.iload_n 2, 1) := by decide +kernel
theorem d1_1 : decode method_2_code 1 = .ok (.iconst 3, 1) := by decide +kernel
theorem d1_2 : decode method_2_code 2 = .ok (.iand, 1) := by decide +kernel
theorem d1_3 : decode method_2_code 3 = .ok (.istore_n 3, 1) := by decide +kernel
theorem d1_4 : decode method_2_code 4 = .ok (.iload_n 3, 1) := by decide +kernel
theorem d1_5 : decode method_2_code 5 = .ok (.ifCond .ne 5, 3) := by decide +kernel
theorem d1_8 : decode method_2_code 8 = .ok (.lconst 0, 1) := by decide +kernel
theorem d1_9 : decode method_2_code 9 = .ok (.lreturn, 1) := by decide +kernel
theorem d1_10 : decode method_2_code 10 = .ok (.iload_n 3, 1) := by decide +kernel
theorem d1_11 : decode method_2_code 11 = .ok (.iconst 1, 1) := by decide +kernel
theorem d1_12 : decode method_2_code 12 = .ok (.if_icmp .ne 12, 3) := by decide +kernel
theorem d1_15 : decode method_2_code 15 = .ok (.iload_n 2, 1) := by decide +kernel
theorem d1_16 : decode method_2_code 16 = .ok (.iconst 2, 1) := by decide +kernel
theorem d1_17 : decode method_2_code 17 = .ok (.ishr, 1) := by decide +kernel
theorem d1_18 : decode method_2_code 18 = .ok (.iconst 3, 1) := by decide +kernel
theorem d1_19 : decode method_2_code 19 = .ok (.iand, 1) := by decide +kernel
theorem d1_20 : decode method_2_code 20 = .ok (.iconst 2, 1) := by decide +kernel
theorem d1_21 : decode method_2_code 21 = .ok (.isub, 1) := by decide +kernel
theorem d1_22 : decode method_2_code 22 = .ok (.i2l, 1) := by decide +kernel
theorem d1_23 : decode method_2_code 23 = .ok (.lreturn, 1) := by decide +kernel
theorem d1_24 : decode method_2_code 24 = .ok (.lload_n 0, 1) := by decide +kernel
theorem d1_25 : decode method_2_code 25 = .ok (.lreturn, 1) := by decide +kernel
theorem pn_1 : plainName "com/example/waveloom/waveloom/CountsValid360PinLaw" = true := by first | (simp [plainName, overriddenIn]; done) | decide +kernel
theorem rm1_ef (m : MethodId) (v0 : Int64) (sel : Int32) : entryFrame m #[(.long v0), (.int sel)] 4 = mkF m 0 #[.val (.long v0), .second, .val (.int sel), .unset] [] := by first | (simp [entryFrame, mkF, argsToLocals, Value.category]; done) | rfl
abbrev rm1_Q (Z : State) (v0 : Int64) (sel : Int32) (h0 : Heap) (n0 : Nat) : Option Value → Heap → Prop := fun v h => v = some (.long (own_pick v0 sel)) ∧ h0 = h
set_option maxRecDepth 65536 in
set_option maxHeartbeats 40000000 in
theorem rm1 (l : Launch) (Z : State) (a0 : Array Value) (hw : ∀ d ∈ tables_1, d.before a0 Z = true) (ws : List Jvm.Cond) (v0 : Int64) (sel : Int32) (h : Heap) (n0 : Nat) (hn0 : n0 ≤ h.size) :
    Ct l Z (⟨"com/example/waveloom/waveloom/CountsValid360PinLaw", "pickViolations", "(JI)J"⟩ : MethodName) method_2_code 4 (some .long) ws ({ frames := 0, cells := 0, slots := 0, locals := 0 } : Room) #[(.long v0), (.int sel)] h n0 (rm1_Q Z v0 sel h n0) := by
  refine Ct.of (plainFor_of_name pn_1) hn0 (fun m => rm1_ef m v0 sel) ?_
  intro p e s m below meth c T0 X0
  replace X0 : Sn Z n0 method_2_code 4 "com/example/waveloom/waveloom/CountsValid360PinLaw" "pickViolations" (some .long) p l e ({ frames := 0, cells := 0, slots := 0, locals := 0 } : Room) s m #[(.long v0), (.int sel)] below meth c T0 h 0 0 := X0
  refine w_iloadN (pc' := 1) X0 d1_0 rfl rfl ?_
  refine w_iconst (pc' := 2) (z := (3 : Int32)) X0 d1_1 rfl rfl ?_
  refine w_iand (pc' := 3) X0 d1_2 rfl ?_
  refine w_istoreN (pc' := 4) (L' := #[.val (.long v0), .second, .val (.int sel), .val (.int (sel &&& (3 : Int32)))]) X0 d1_3 rfl rfl ?_
  refine w_iloadN (pc' := 5) X0 d1_4 rfl rfl ?_
  refine w_if_ne (pc1 := 10) (pc2 := 8) X0 d1_5 (by decide) (fun (hc5 : (sel &&& (3 : Int32)) ≠ (0 : Int32)) => ?_) (fun (hc5 : (sel &&& (3 : Int32)) = (0 : Int32)) => ?_)
  · refine w_iloadN (pc' := 11) X0 d1_10 rfl rfl ?_
    refine w_iconst (pc' := 12) (z := (1 : Int32)) X0 d1_11 rfl rfl ?_
    refine w_icmp_ne (pc1 := 24) (pc2 := 15) X0 d1_12 (by decide) (fun (hc12 : (sel &&& (3 : Int32)) ≠ (1 : Int32)) => ?_) (fun (hc12 : (sel &&& (3 : Int32)) = (1 : Int32)) => ?_)
    · refine w_lloadN (pc' := 25) X0 d1_24 rfl rfl ?_
      exact w_lreturn X0 d1_25 rfl (⟨by simp [own_pick, *], rfl⟩)
    · refine w_iloadN (pc' := 16) X0 d1_15 rfl rfl ?_
      refine w_iconst (pc' := 17) (z := (2 : Int32)) X0 d1_16 rfl rfl ?_
      refine w_ishr (pc' := 18) X0 d1_17 rfl ?_
      refine w_iconst (pc' := 19) (z := (3 : Int32)) X0 d1_18 rfl rfl ?_
      refine w_iand (pc' := 20) X0 d1_19 rfl ?_
      refine w_iconst (pc' := 21) (z := (2 : Int32)) X0 d1_20 rfl rfl ?_
      refine w_isub (pc' := 22) X0 d1_21 rfl ?_
      refine w_i2l (pc' := 23) X0 d1_22 rfl ?_
      exact w_lreturn X0 d1_23 rfl (⟨by simp [own_pick, *], rfl⟩)
  · refine w_lconst (pc' := 9) (z := (0 : Int64)) X0 d1_8 rfl rfl ?_
    exact w_lreturn X0 d1_9 rfl (⟨by simp [own_pick, *], rfl⟩)
theorem d3_0 : decode jdk_30_method_1_code 0 = .ok (.aload_n 0, 1) := by decide +kernel
theorem d3_1 : decode jdk_30_method_1_code 1 = .ok (.invokespecial 1, 3) := by decide +kernel
theorem d3_4 : decode jdk_30_method_1_code 4 = .ok (.return_, 1) := by decide +kernel
theorem pn_3 : plainName "java/lang/Record" = true := by first | (simp [plainName, overriddenIn]; done) | decide +kernel
theorem rm3_ef (m : MethodId) (a : Addr) : entryFrame m #[(.ref a)] 1 = mkF m 0 #[.val (.ref a)] [] := by first | (simp [entryFrame, mkF, argsToLocals, Value.category]; done) | rfl
abbrev rm3_Q (Z : State) (a : Addr) (h0 : Heap) (n0 : Nat) : Option Value → Heap → Prop := fun v h => v = none ∧ h0 = h
set_option maxRecDepth 65536 in
set_option maxHeartbeats 40000000 in
theorem rm3 (l : Launch) (Z : State) (a0 : Array Value) (hw : ∀ d ∈ tables_1, d.before a0 Z = true) (ws : List Jvm.Cond) (a : Addr) (h : Heap) (n0 : Nat) (hn0 : n0 ≤ h.size) :
    Ct l Z (⟨"java/lang/Record", "<init>", "()V"⟩ : MethodName) jdk_30_method_1_code 1 none ws ({ frames := 1, cells := 0, slots := 0, locals := 12 } : Room) #[(.ref a)] h n0 (rm3_Q Z a h n0) := by
  refine Ct.of (plainFor_of_name pn_3) hn0 (fun m => rm3_ef m a) ?_
  intro p e s m below meth c T0 X0
  replace X0 : Sn Z n0 jdk_30_method_1_code 1 "java/lang/Record" "<init>" none p l e ({ frames := 1, cells := 0, slots := 0, locals := 12 } : Room) s m #[(.ref a)] below meth c T0 h 0 0 := X0
  refine w_aloadN (pc' := 1) X0 d3_0 rfl rfl rfl ?_
  refine w_initO (pc' := 4) (wd := 0) X0 d3_1 (hw _ (List.mem_of_getElem? (i := 15) rfl)) (hw _ (List.mem_of_getElem? (i := 16) rfl)) (hw _ (List.mem_of_getElem? (i := 17) rfl)) rfl (Nat.le_of_eq rfl) (by decide) (fun T1 X1 => ?_)
  exact w_return X1 d3_4 rfl (⟨rfl, rfl⟩)
theorem pd_27 : parseMethodDescriptor "()V" = some ⟨[], none⟩ := by decide +kernel
theorem d2_0 : decode prog_56_method_1_code 0 = .ok (.aload_n 0, 1) := by decide +kernel
theorem d2_1 : decode prog_56_method_1_code 1 = .ok (.invokespecial 1, 3) := by decide +kernel
theorem d2_4 : decode prog_56_method_1_code 4 = .ok (.aload_n 0, 1) := by decide +kernel
theorem d2_5 : decode prog_56_method_1_code 5 = .ok (.lload_n 1, 1) := by decide +kernel
theorem d2_6 : decode prog_56_method_1_code 6 = .ok (.putfield 7, 3) := by decide +kernel
theorem d2_9 : decode prog_56_method_1_code 9 = .ok (.aload_n 0, 1) := by decide +kernel
theorem d2_10 : decode prog_56_method_1_code 10 = .ok (.iload_n 3, 1) := by decide +kernel
theorem d2_11 : decode prog_56_method_1_code 11 = .ok (.putfield 13, 3) := by decide +kernel
theorem d2_14 : decode prog_56_method_1_code 14 = .ok (.aload_n 0, 1) := by decide +kernel
theorem d2_15 : decode prog_56_method_1_code 15 = .ok (.lload 4, 2) := by decide +kernel
theorem d2_17 : decode prog_56_method_1_code 17 = .ok (.putfield 17, 3) := by decide +kernel
theorem d2_20 : decode prog_56_method_1_code 20 = .ok (.aload_n 0, 1) := by decide +kernel
theorem d2_21 : decode prog_56_method_1_code 21 = .ok (.iload 6, 2) := by decide +kernel
theorem d2_23 : decode prog_56_method_1_code 23 = .ok (.putfield 20, 3) := by decide +kernel
theorem d2_26 : decode prog_56_method_1_code 26 = .ok (.aload_n 0, 1) := by decide +kernel
theorem d2_27 : decode prog_56_method_1_code 27 = .ok (.iload 7, 2) := by decide +kernel
theorem d2_29 : decode prog_56_method_1_code 29 = .ok (.putfield 23, 3) := by decide +kernel
theorem d2_32 : decode prog_56_method_1_code 32 = .ok (.return_, 1) := by decide +kernel
theorem pn_2 : plainName "com/example/waveloom/waveloom/Verdict$Counts" = true := by first | (simp [plainName, overriddenIn]; done) | decide +kernel
theorem rm2_ef (m : MethodId) (a : Addr) (v1 : Int64) (c1 : Int32) (w1 : Int64) (d1 : Int32) (e1 : Int32) : entryFrame m #[(.ref a), (.long v1), (.int c1), (.long w1), (.int d1), (.int e1)] 8 = mkF m 0 #[.val (.ref a), .val (.long v1), .second, .val (.int c1), .val (.long w1), .second, .val (.int d1), .val (.int e1)] [] := by first | (simp [entryFrame, mkF, argsToLocals, Value.category]; done) | rfl
abbrev rm2_Q (Z : State) (a : Addr) (v1 : Int64) (c1 : Int32) (w1 : Int64) (d1 : Int32) (e1 : Int32) (h0 : Heap) (n0 : Nat) : Option Value → Heap → Prop := fun v h => v = none ∧ Keep h0 h [a] ∧ Fld Z h a "com/example/waveloom/waveloom/Verdict$Counts" "violations" "J" (.long v1)
set_option maxRecDepth 65536 in
set_option maxHeartbeats 40000000 in
theorem rm2 (l : Launch) (Z : State) (a0 : Array Value) (hw : ∀ d ∈ tables_1, d.before a0 Z = true) (ws : List Jvm.Cond) (a : Addr) (v1 : Int64) (c1 : Int32) (w1 : Int64) (d1 : Int32) (e1 : Int32) (h : Heap) (n0 : Nat) (hn0 : n0 ≤ h.size) (E0 : Exa Z h a "com/example/waveloom/waveloom/Verdict$Counts") (F0_conversions : Fld Z h a "com/example/waveloom/waveloom/Verdict$Counts" "conversions" "I" (.int (0 : Int32))) (F0_lightpaths : Fld Z h a "com/example/waveloom/waveloom/Verdict$Counts" "lightpaths" "I" (.int (0 : Int32))) (F0_maxConversions : Fld Z h a "com/example/waveloom/waveloom/Verdict$Counts" "maxConversions" "I" (.int (0 : Int32))) (F0_violations : Fld Z h a "com/example/waveloom/waveloom/Verdict$Counts" "violations" "J" (.long (0 : Int64))) (F0_wavelengths : Fld Z h a "com/example/waveloom/waveloom/Verdict$Counts" "wavelengths" "J" (.long (0 : Int64))) (g0 : n0 ≤ a) :
    Ct l Z (⟨"com/example/waveloom/waveloom/Verdict$Counts", "<init>", "(JIJII)V"⟩ : MethodName) prog_56_method_1_code 8 none ws ({ frames := 2, cells := 0, slots := 0, locals := 24 } : Room) #[(.ref a), (.long v1), (.int c1), (.long w1), (.int d1), (.int e1)] h n0 (rm2_Q Z a v1 c1 w1 d1 e1 h n0) := by
  refine Ct.of (plainFor_of_name pn_2) hn0 (fun m => rm2_ef m a v1 c1 w1 d1 e1) ?_
  intro p e s m below meth c T0 X0
  replace X0 : Sn Z n0 prog_56_method_1_code 8 "com/example/waveloom/waveloom/Verdict$Counts" "<init>" none p l e ({ frames := 2, cells := 0, slots := 0, locals := 24 } : Room) s m #[(.ref a), (.long v1), (.int c1), (.long w1), (.int d1), (.int e1)] below meth c T0 h 0 0 := X0
  have K0 := Keep.refl h [a]
  refine w_aloadN (pc' := 1) X0 d2_0 rfl rfl rfl ?_
  refine w_callC (pc' := 4) (wd := 0) (argsL := []) (rest := []) (Q2 := (rm3_Q Z a h n0)) (a := a) X0 rfl d2_1 (hw _ (List.mem_of_getElem? (i := 10) rfl)) (hw _ (List.mem_of_getElem? (i := 11) rfl)) (hw _ (List.mem_of_getElem? (i := 13) rfl)) (hw _ (List.mem_of_getElem? (i := 14) rfl)) (by decide) (rm3 l Z a0 hw [] a h n0 X0.size) pd_27 rfl rfl rfl (Nat.le_of_eq rfl) (by decide) (fun v1 T1 h1 X1 q1 => ?_)
  obtain ⟨rfl, rfl⟩ := q1
  refine w_aloadN (pc' := 5) X1 d2_4 rfl rfl rfl ?_
  refine w_lloadN (pc' := 6) X1 d2_5 rfl rfl ?_
  refine w_putfield (pc' := 9) (ty := .long) (v' := (.long v1)) X1 F0_violations E0 d2_6 (hw _ (List.mem_of_getElem? (i := 18) rfl)) Via.refl (Or.inr ⟨(hw _ (List.mem_of_getElem? (i := 19) rfl)), rfl, rfl⟩) (hw _ (List.mem_of_getElem? (i := 5) rfl)) (by decide) rfl rfl rfl g0 (fun T2 h2 X2 W2 => ?_)
  have E3 := E0.wr W2
  have F4 := F0_conversions.other W2 (Or.inr (slot_ne (Or.inr (hw _ (List.mem_of_getElem? (i := 25) rfl))) (Or.inr (hw _ (List.mem_of_getElem? (i := 19) rfl))) (by decide) (t := .int) (t' := .long) (by decide) (by decide)))
  have F5 := F0_lightpaths.other W2 (Or.inr (slot_ne (Or.inr (hw _ (List.mem_of_getElem? (i := 21) rfl))) (Or.inr (hw _ (List.mem_of_getElem? (i := 19) rfl))) (by decide) (t := .int) (t' := .long) (by decide) (by decide)))
  have F6 := F0_maxConversions.other W2 (Or.inr (slot_ne (Or.inr (hw _ (List.mem_of_getElem? (i := 27) rfl))) (Or.inr (hw _ (List.mem_of_getElem? (i := 19) rfl))) (by decide) (t := .int) (t' := .long) (by decide) (by decide)))
  have F7 := F0_wavelengths.other W2 (Or.inr (slot_ne (Or.inr (hw _ (List.mem_of_getElem? (i := 23) rfl))) (Or.inr (hw _ (List.mem_of_getElem? (i := 19) rfl))) (by decide) (t := .long) (t' := .long) (by decide) (by decide)))
  have F2 := F0_violations.same W2
  have K2 := K0.wr W2 (Or.inl (List.mem_of_getElem? (i := 0) rfl))
  refine w_aloadN (pc' := 10) X2 d2_9 rfl rfl rfl ?_
  refine w_iloadN (pc' := 11) X2 d2_10 rfl rfl ?_
  refine w_putfield (pc' := 14) (ty := .int) (v' := (.int c1)) X2 F5 E3 d2_11 (hw _ (List.mem_of_getElem? (i := 20) rfl)) Via.refl (Or.inr ⟨(hw _ (List.mem_of_getElem? (i := 21) rfl)), rfl, rfl⟩) (hw _ (List.mem_of_getElem? (i := 5) rfl)) (by decide) rfl rfl rfl g0 (fun T8 h8 X8 W8 => ?_)
  have E9 := E3.wr W8
  have F10 := F4.other W8 (Or.inr (slot_ne (Or.inr (hw _ (List.mem_of_getElem? (i := 25) rfl))) (Or.inr (hw _ (List.mem_of_getElem? (i := 21) rfl))) (by decide) (t := .int) (t' := .int) (by decide) (by decide)))
  have F11 := F6.other W8 (Or.inr (slot_ne (Or.inr (hw _ (List.mem_of_getElem? (i := 27) rfl))) (Or.inr (hw _ (List.mem_of_getElem? (i := 21) rfl))) (by decide) (t := .int) (t' := .int) (by decide) (by decide)))
  have F12 := F2.other W8 (Or.inr (slot_ne (Or.inr (hw _ (List.mem_of_getElem? (i := 19) rfl))) (Or.inr (hw _ (List.mem_of_getElem? (i := 21) rfl))) (by decide) (t := .long) (t' := .int) (by decide) (by decide)))
  have F13 := F7.other W8 (Or.inr (slot_ne (Or.inr (hw _ (List.mem_of_getElem? (i := 23) rfl))) (Or.inr (hw _ (List.mem_of_getElem? (i := 21) rfl))) (by decide) (t := .long) (t' := .int) (by decide) (by decide)))
  have F8 := F5.same W8
  have K8 := K2.wr W8 (Or.inl (List.mem_of_getElem? (i := 0) rfl))
  refine w_aloadN (pc' := 15) X8 d2_14 rfl rfl rfl ?_
  refine w_lload (pc' := 17) X8 d2_15 rfl rfl ?_
  refine w_putfield (pc' := 20) (ty := .long) (v' := (.long w1)) X8 F13 E9 d2_17 (hw _ (List.mem_of_getElem? (i := 22) rfl)) Via.refl (Or.inr ⟨(hw _ (List.mem_of_getElem? (i := 23) rfl)), rfl, rfl⟩) (hw _ (List.mem_of_getElem? (i := 5) rfl)) (by decide) rfl rfl rfl g0 (fun T14 h14 X14 W14 => ?_)
  have E15 := E9.wr W14
  have F16 := F10.other W14 (Or.inr (slot_ne (Or.inr (hw _ (List.mem_of_getElem? (i := 25) rfl))) (Or.inr (hw _ (List.mem_of_getElem? (i := 23) rfl))) (by decide) (t := .int) (t' := .long) (by decide) (by decide)))
  have F17 := F8.other W14 (Or.inr (slot_ne (Or.inr (hw _ (List.mem_of_getElem? (i := 21) rfl))) (Or.inr (hw _ (List.mem_of_getElem? (i := 23) rfl))) (by decide) (t := .int) (t' := .long) (by decide) (by decide)))
  have F18 := F11.other W14 (Or.inr (slot_ne (Or.inr (hw _ (List.mem_of_getElem? (i := 27) rfl))) (Or.inr (hw _ (List.mem_of_getElem? (i := 23) rfl))) (by decide) (t := .int) (t' := .long) (by decide) (by decide)))
  have F19 := F12.other W14 (Or.inr (slot_ne (Or.inr (hw _ (List.mem_of_getElem? (i := 19) rfl))) (Or.inr (hw _ (List.mem_of_getElem? (i := 23) rfl))) (by decide) (t := .long) (t' := .long) (by decide) (by decide)))
  have F14 := F13.same W14
  have K14 := K8.wr W14 (Or.inl (List.mem_of_getElem? (i := 0) rfl))
  refine w_aloadN (pc' := 21) X14 d2_20 rfl rfl rfl ?_
  refine w_iload (pc' := 23) X14 d2_21 rfl rfl ?_
  refine w_putfield (pc' := 26) (ty := .int) (v' := (.int d1)) X14 F16 E15 d2_23 (hw _ (List.mem_of_getElem? (i := 24) rfl)) Via.refl (Or.inr ⟨(hw _ (List.mem_of_getElem? (i := 25) rfl)), rfl, rfl⟩) (hw _ (List.mem_of_getElem? (i := 5) rfl)) (by decide) rfl rfl rfl g0 (fun T20 h20 X20 W20 => ?_)
  have E21 := E15.wr W20
  have F22 := F17.other W20 (Or.inr (slot_ne (Or.inr (hw _ (List.mem_of_getElem? (i := 21) rfl))) (Or.inr (hw _ (List.mem_of_getElem? (i := 25) rfl))) (by decide) (t := .int) (t' := .int) (by decide) (by decide)))
  have F23 := F18.other W20 (Or.inr (slot_ne (Or.inr (hw _ (List.mem_of_getElem? (i := 27) rfl))) (Or.inr (hw _ (List.mem_of_getElem? (i := 25) rfl))) (by decide) (t := .int) (t' := .int) (by decide) (by decide)))
  have F24 := F19.other W20 (Or.inr (slot_ne (Or.inr (hw _ (List.mem_of_getElem? (i := 19) rfl))) (Or.inr (hw _ (List.mem_of_getElem? (i := 25) rfl))) (by decide) (t := .long) (t' := .int) (by decide) (by decide)))
  have F25 := F14.other W20 (Or.inr (slot_ne (Or.inr (hw _ (List.mem_of_getElem? (i := 23) rfl))) (Or.inr (hw _ (List.mem_of_getElem? (i := 25) rfl))) (by decide) (t := .long) (t' := .int) (by decide) (by decide)))
  have F20 := F16.same W20
  have K20 := K14.wr W20 (Or.inl (List.mem_of_getElem? (i := 0) rfl))
  refine w_aloadN (pc' := 27) X20 d2_26 rfl rfl rfl ?_
  refine w_iload (pc' := 29) X20 d2_27 rfl rfl ?_
  refine w_putfield (pc' := 32) (ty := .int) (v' := (.int e1)) X20 F23 E21 d2_29 (hw _ (List.mem_of_getElem? (i := 26) rfl)) Via.refl (Or.inr ⟨(hw _ (List.mem_of_getElem? (i := 27) rfl)), rfl, rfl⟩) (hw _ (List.mem_of_getElem? (i := 5) rfl)) (by decide) rfl rfl rfl g0 (fun T26 h26 X26 W26 => ?_)
  have E27 := E21.wr W26
  have F28 := F20.other W26 (Or.inr (slot_ne (Or.inr (hw _ (List.mem_of_getElem? (i := 25) rfl))) (Or.inr (hw _ (List.mem_of_getElem? (i := 27) rfl))) (by decide) (t := .int) (t' := .int) (by decide) (by decide)))
  have F29 := F22.other W26 (Or.inr (slot_ne (Or.inr (hw _ (List.mem_of_getElem? (i := 21) rfl))) (Or.inr (hw _ (List.mem_of_getElem? (i := 27) rfl))) (by decide) (t := .int) (t' := .int) (by decide) (by decide)))
  have F30 := F24.other W26 (Or.inr (slot_ne (Or.inr (hw _ (List.mem_of_getElem? (i := 19) rfl))) (Or.inr (hw _ (List.mem_of_getElem? (i := 27) rfl))) (by decide) (t := .long) (t' := .int) (by decide) (by decide)))
  have F31 := F25.other W26 (Or.inr (slot_ne (Or.inr (hw _ (List.mem_of_getElem? (i := 23) rfl))) (Or.inr (hw _ (List.mem_of_getElem? (i := 27) rfl))) (by decide) (t := .long) (t' := .int) (by decide) (by decide)))
  have F26 := F23.same W26
  have K26 := K20.wr W26 (Or.inl (List.mem_of_getElem? (i := 0) rfl))
  exact w_return X26 d2_32 rfl (⟨rfl, K26, F30⟩)
theorem d5_0 : decode prog_56_method_2_code 0 = .ok (.aload_n 0, 1) := by decide +kernel
theorem d5_1 : decode prog_56_method_2_code 1 = .ok (.getfield 7, 3) := by decide +kernel
theorem d5_4 : decode prog_56_method_2_code 4 = .ok (.lconst 0, 1) := by decide +kernel
theorem d5_5 : decode prog_56_method_2_code 5 = .ok (.lcmp, 1) := by decide +kernel
theorem d5_6 : decode prog_56_method_2_code 6 = .ok (.ifCond .ne 7, 3) := by decide +kernel
theorem d5_9 : decode prog_56_method_2_code 9 = .ok (.iconst 1, 1) := by decide +kernel
theorem d5_10 : decode prog_56_method_2_code 10 = .ok (.goto 4, 3) := by decide +kernel
theorem d5_13 : decode prog_56_method_2_code 13 = .ok (.iconst 0, 1) := by decide +kernel
theorem d5_14 : decode prog_56_method_2_code 14 = .ok (.ireturn, 1) := by decide +kernel
theorem rm5_ef (m : MethodId) (a : Addr) : entryFrame m #[(.ref a)] 1 = mkF m 0 #[.val (.ref a)] [] := by first | (simp [entryFrame, mkF, argsToLocals, Value.category]; done) | rfl
abbrev rm5_Q (Z : State) (a : Addr) (vi : Int64) (h0 : Heap) (n0 : Nat) : Option Value → Heap → Prop := fun v h => v = some (.int (own_val vi)) ∧ h0 = h
set_option maxRecDepth 65536 in
set_option maxHeartbeats 40000000 in
theorem rm5 (l : Launch) (Z : State) (a0 : Array Value) (hw : ∀ d ∈ tables_1, d.before a0 Z = true) (ws : List Jvm.Cond) (a : Addr) (vi : Int64) (h : Heap) (n0 : Nat) (hn0 : n0 ≤ h.size) (F0 : Fld Z h a "com/example/waveloom/waveloom/Verdict$Counts" "violations" "J" (.long vi)) :
    Ct l Z (⟨"com/example/waveloom/waveloom/Verdict$Counts", "valid", "()Z"⟩ : MethodName) prog_56_method_2_code 1 (some .boolean) ws ({ frames := 0, cells := 0, slots := 0, locals := 0 } : Room) #[(.ref a)] h n0 (rm5_Q Z a vi h n0) := by
  refine Ct.of (plainFor_of_name pn_2) hn0 (fun m => rm5_ef m a) ?_
  intro p e s m below meth c T0 X0
  replace X0 : Sn Z n0 prog_56_method_2_code 1 "com/example/waveloom/waveloom/Verdict$Counts" "valid" (some .boolean) p l e ({ frames := 0, cells := 0, slots := 0, locals := 0 } : Room) s m #[(.ref a)] below meth c T0 h 0 0 := X0
  refine w_aloadN (pc' := 1) X0 d5_0 rfl rfl rfl ?_
  refine w_getfield (pc' := 4) X0 F0 d5_1 (hw _ (List.mem_of_getElem? (i := 18) rfl)) Via.refl rfl (fun T1 X1 => ?_)
  refine w_lconst (pc' := 5) (z := (0 : Int64)) X1 d5_4 rfl rfl ?_
  refine w_lcif_ne (pc' := 6) (pc1 := 13) (pc2 := 9) X1 d5_5 d5_6 (by decide) (fun (hc6 : vi ≠ (0 : Int64)) => ?_) (fun (hc6 : vi = (0 : Int64)) => ?_)
  · refine w_iconst (pc' := 14) (z := (0 : Int32)) X1 d5_13 rfl rfl ?_
    exact w_nreturn (t := .boolean) X1 d5_14 rfl (by simp) (⟨by simp [own_val, *]; rfl, rfl⟩)
  · refine w_iconst (pc' := 10) (z := (1 : Int32)) X1 d5_9 rfl rfl ?_
    refine w_goto (pc' := 14) X1 d5_10 (by decide) ?_
    exact w_nreturn (t := .boolean) X1 d5_14 rfl (by simp) (⟨by simp [own_val, *]; rfl, rfl⟩)
theorem pd_56 : parseMethodDescriptor "(JI)J" = some ⟨[.long, .int], some .long⟩ := by decide +kernel
theorem pd_57 : parseMethodDescriptor "(JIJII)V" = some ⟨[.long, .int, .long, .int, .int], none⟩ := by decide +kernel
theorem pd_58 : parseMethodDescriptor "()Z" = some ⟨[], some .boolean⟩ := by decide +kernel
theorem rm0_ef (m : MethodId) (v0 : Int64) (c1 : Int32) (w1 : Int64) (d1 : Int32) (e1 : Int32) (sel : Int32) : entryFrame m #[(.long v0), (.int c1), (.long w1), (.int d1), (.int e1), (.int sel)] 12 = mkF m 0 #[.val (.long v0), .second, .val (.int c1), .val (.long w1), .second, .val (.int d1), .val (.int e1), .val (.int sel), .unset, .unset, .unset, .unset] [] := by first | (simp [entryFrame, mkF, argsToLocals, Value.category]; done) | rfl
abbrev rm0_Q (Z : State) (v0 : Int64) (c1 : Int32) (w1 : Int64) (d1 : Int32) (e1 : Int32) (sel : Int32) (h0 : Heap) (n0 : Nat) : Option Value → Heap → Prop := fun v h => v = some (.int 1)
set_option maxRecDepth 65536 in
set_option maxHeartbeats 40000000 in
theorem rm0 (l : Launch) (Z : State) (a0 : Array Value) (hw : ∀ d ∈ tables_1, d.before a0 Z = true) (ws : List Jvm.Cond) (v0 : Int64) (c1 : Int32) (w1 : Int64) (d1 : Int32) (e1 : Int32) (sel : Int32) (h : Heap) (n0 : Nat) (hn0 : n0 ≤ h.size) :
    Ct l Z x code maxLocals ret ws room_1 #[(.long v0), (.int c1), (.long w1), (.int d1), (.int e1), (.int sel)] h n0 (rm0_Q Z v0 c1 w1 d1 e1 sel h n0) := by
  refine Ct.of (plainFor_of_name pn_1) hn0 (fun m => rm0_ef m v0 c1 w1 d1 e1 sel) ?_
  intro p e s m below meth c T0 X0
  replace X0 : Sn Z n0 code 12 "com/example/waveloom/waveloom/CountsValid360PinLaw" "law" (some .boolean) p l e room_1 s m #[(.long v0), (.int c1), (.long w1), (.int d1), (.int e1), (.int sel)] below meth c T0 h 0 0 := X0
  refine w_lloadN (pc' := 1) X0 at_0 rfl rfl ?_
  refine w_iload (pc' := 3) X0 at_1 rfl rfl ?_
  refine w_callS (pc' := 6) (wd := 0) (argsL := [(.long v0), (.int sel)]) (rest := []) (Q2 := (rm1_Q Z v0 sel h n0)) X0 at_3 (hw _ (List.mem_of_getElem? (i := 0) rfl)) (hw _ (List.mem_of_getElem? (i := 1) rfl)) (hw _ (List.mem_of_getElem? (i := 2) rfl)) (hw _ (List.mem_of_getElem? (i := 3) rfl)) (by decide) (rm1 l Z a0 hw [] v0 sel h n0 X0.size) pd_56 rfl rfl rfl (Nat.le_of_eq rfl) (by decide) (fun v1 T1 h1 X1 q1 => ?_)
  obtain ⟨rfl, rfl⟩ := q1
  obtain ⟨nv, hnv⟩ : ∃ z : Int64, z = (own_pick v0 sel) := ⟨_, rfl⟩
  refine w_topJ hnv.symm ?_
  refine w_lstore (pc' := 8) (L' := #[.val (.long v0), .second, .val (.int c1), .val (.long w1), .second, .val (.int d1), .val (.int e1), .val (.int sel), .val (.long nv), .second, .unset, .unset]) X1 at_6 rfl rfl ?_
  refine w_new (pc' := 11) X1 at_8 (hw _ (List.mem_of_getElem? (i := 4) rfl)) (hw _ (List.mem_of_getElem? (i := 5) rfl)) (hw _ (List.mem_of_getElem? (i := 6) rfl)) (by decide) (fun T2 h2 b2 X2 E2 q2 g2 A2 D2 => ?_)
  have F3 : Fld Z h2 b2 "com/example/waveloom/waveloom/Verdict$Counts" "violations" "J" (.long (0 : Int64)) := D2 (Or.inr (hw _ (List.mem_of_getElem? (i := 19) rfl))) (ty := .long) (by decide)
  have F4 : Fld Z h2 b2 "com/example/waveloom/waveloom/Verdict$Counts" "lightpaths" "I" (.int (0 : Int32)) := D2 (Or.inr (hw _ (List.mem_of_getElem? (i := 21) rfl))) (ty := .int) (by decide)
  have F5 : Fld Z h2 b2 "com/example/waveloom/waveloom/Verdict$Counts" "wavelengths" "J" (.long (0 : Int64)) := D2 (Or.inr (hw _ (List.mem_of_getElem? (i := 23) rfl))) (ty := .long) (by decide)
  have F6 : Fld Z h2 b2 "com/example/waveloom/waveloom/Verdict$Counts" "conversions" "I" (.int (0 : Int32)) := D2 (Or.inr (hw _ (List.mem_of_getElem? (i := 25) rfl))) (ty := .int) (by decide)
  have F7 : Fld Z h2 b2 "com/example/waveloom/waveloom/Verdict$Counts" "maxConversions" "I" (.int (0 : Int32)) := D2 (Or.inr (hw _ (List.mem_of_getElem? (i := 27) rfl))) (ty := .int) (by decide)
  refine w_dup (pc' := 12) X2 at_11 rfl rfl ?_
  refine w_lload (pc' := 14) X2 at_12 rfl rfl ?_
  refine w_iloadN (pc' := 15) X2 at_14 rfl rfl ?_
  refine w_lloadN (pc' := 16) X2 at_15 rfl rfl ?_
  refine w_iload (pc' := 18) X2 at_16 rfl rfl ?_
  refine w_iload (pc' := 20) X2 at_18 rfl rfl ?_
  refine w_callC (pc' := 23) (wd := 1) (argsL := [(.long nv), (.int c1), (.long w1), (.int d1), (.int e1)]) (rest := [(.ref b2)]) (Q2 := (rm2_Q Z b2 nv c1 w1 d1 e1 h2 n0)) (a := b2) X2 rfl at_20 (hw _ (List.mem_of_getElem? (i := 7) rfl)) (hw _ (List.mem_of_getElem? (i := 8) rfl)) (hw _ (List.mem_of_getElem? (i := 6) rfl)) (hw _ (List.mem_of_getElem? (i := 9) rfl)) (by decide) (rm2 l Z a0 hw [] b2 nv c1 w1 d1 e1 h2 n0 X2.size A2 F6 F4 F7 F3 F5 g2) pd_57 rfl rfl rfl (Nat.le_of_eq rfl) (by decide) (fun v8 T8 h8 X8 q8 => ?_)
  obtain ⟨rfl, Kc8, Fc8_0⟩ := q8
  have E9 := A2.keep Kc8
  refine w_astore (pc' := 25) (L' := #[.val (.long v0), .second, .val (.int c1), .val (.long w1), .second, .val (.int d1), .val (.int e1), .val (.int sel), .val (.long nv), .second, .val (.ref b2), .unset]) X8 at_23 rfl rfl rfl ?_
  refine w_lload (pc' := 27) X8 at_25 rfl rfl ?_
  refine w_lconst (pc' := 28) (z := (1 : Int64)) X8 at_27 rfl rfl ?_
  refine w_lcif_ge (pc' := 29) (pc1 := 45) (pc2 := 32) X8 at_28 at_29 (by decide) (fun (hc29 : nv.toInt ≥ (1 : Int)) => ?_) (fun (hc29 : nv.toInt < (1 : Int)) => ?_)
  · refine w_iconst (pc' := 46) (z := (0 : Int32)) X8 at_45 rfl rfl ?_
    refine w_istore (pc' := 48) (L' := #[.val (.long v0), .second, .val (.int c1), .val (.long w1), .second, .val (.int d1), .val (.int e1), .val (.int sel), .val (.long nv), .second, .val (.ref b2), .val (.int (0 : Int32))]) X8 at_46 rfl rfl ?_
    refine w_aload (pc' := 50) X8 at_48 rfl rfl rfl ?_
    refine w_callV (pc' := 53) (wd := 0) (argsL := []) (rest := []) (Q2 := (rm5_Q Z b2 nv h8 n0)) (a := b2) X8 E9 at_50 (hw _ (List.mem_of_getElem? (i := 28) rfl)) (hw _ (List.mem_of_getElem? (i := 29) rfl)) (hw _ (List.mem_of_getElem? (i := 31) rfl)) (hw _ (List.mem_of_getElem? (i := 30) rfl)) (hw _ (List.mem_of_getElem? (i := 6) rfl)) (hw _ (List.mem_of_getElem? (i := 32) rfl)) (by decide) (rm5 l Z a0 hw [] b2 nv h8 n0 X8.size Fc8_0) pd_58 rfl rfl rfl (Nat.le_of_eq rfl) (by decide) (fun v10 T10 h10 X10 q10 => ?_)
    obtain ⟨rfl, rfl⟩ := q10
    refine w_iload (pc' := 55) X10 at_53 rfl rfl ?_
    refine w_icmp_ne (pc1 := 62) (pc2 := 58) X10 at_55 (by decide) (fun (hc55 : (own_val nv) ≠ (0 : Int32)) => absurd (by simp [own_val, own_nz (n := nv) (by omega)]) hc55) (fun (hc55 : (own_val nv) = (0 : Int32)) => ?_)
    refine w_iconst (pc' := 59) (z := (1 : Int32)) X10 at_58 rfl rfl ?_
    refine w_goto (pc' := 63) X10 at_59 (by decide) ?_
    exact w_nreturn (t := .boolean) X10 at_63 rfl (by simp) (rfl)
  · refine w_lload (pc' := 34) X8 at_32 rfl rfl ?_
    refine w_ldc2 (pc' := 37) (z := (-1 : Int64)) X8 at_34 (hw _ (List.mem_of_getElem? (i := 33) rfl)) rfl ?_
    refine w_lcif_le (pc' := 38) (pc1 := 45) (pc2 := 41) X8 at_37 at_38 (by decide) (fun (hc38 : nv.toInt ≤ (-1 : Int)) => ?_) (fun (hc38 : nv.toInt > (-1 : Int)) => ?_)
    · refine w_iconst (pc' := 46) (z := (0 : Int32)) X8 at_45 rfl rfl ?_
      refine w_istore (pc' := 48) (L' := #[.val (.long v0), .second, .val (.int c1), .val (.long w1), .second, .val (.int d1), .val (.int e1), .val (.int sel), .val (.long nv), .second, .val (.ref b2), .val (.int (0 : Int32))]) X8 at_46 rfl rfl ?_
      refine w_aload (pc' := 50) X8 at_48 rfl rfl rfl ?_
      refine w_callV (pc' := 53) (wd := 0) (argsL := []) (rest := []) (Q2 := (rm5_Q Z b2 nv h8 n0)) (a := b2) X8 E9 at_50 (hw _ (List.mem_of_getElem? (i := 28) rfl)) (hw _ (List.mem_of_getElem? (i := 29) rfl)) (hw _ (List.mem_of_getElem? (i := 31) rfl)) (hw _ (List.mem_of_getElem? (i := 30) rfl)) (hw _ (List.mem_of_getElem? (i := 6) rfl)) (hw _ (List.mem_of_getElem? (i := 32) rfl)) (by decide) (rm5 l Z a0 hw [] b2 nv h8 n0 X8.size Fc8_0) pd_58 rfl rfl rfl (Nat.le_of_eq rfl) (by decide) (fun v11 T11 h11 X11 q11 => ?_)
      obtain ⟨rfl, rfl⟩ := q11
      refine w_iload (pc' := 55) X11 at_53 rfl rfl ?_
      refine w_icmp_ne (pc1 := 62) (pc2 := 58) X11 at_55 (by decide) (fun (hc55 : (own_val nv) ≠ (0 : Int32)) => absurd (by simp [own_val, own_nz (n := nv) (by omega)]) hc55) (fun (hc55 : (own_val nv) = (0 : Int32)) => ?_)
      refine w_iconst (pc' := 59) (z := (1 : Int32)) X11 at_58 rfl rfl ?_
      refine w_goto (pc' := 63) X11 at_59 (by decide) ?_
      exact w_nreturn (t := .boolean) X11 at_63 rfl (by simp) (rfl)
    · refine w_iconst (pc' := 42) (z := (1 : Int32)) X8 at_41 rfl rfl ?_
      refine w_goto (pc' := 46) X8 at_42 (by decide) ?_
      refine w_istore (pc' := 48) (L' := #[.val (.long v0), .second, .val (.int c1), .val (.long w1), .second, .val (.int d1), .val (.int e1), .val (.int sel), .val (.long nv), .second, .val (.ref b2), .val (.int (1 : Int32))]) X8 at_46 rfl rfl ?_
      refine w_aload (pc' := 50) X8 at_48 rfl rfl rfl ?_
      refine w_callV (pc' := 53) (wd := 0) (argsL := []) (rest := []) (Q2 := (rm5_Q Z b2 nv h8 n0)) (a := b2) X8 E9 at_50 (hw _ (List.mem_of_getElem? (i := 28) rfl)) (hw _ (List.mem_of_getElem? (i := 29) rfl)) (hw _ (List.mem_of_getElem? (i := 31) rfl)) (hw _ (List.mem_of_getElem? (i := 30) rfl)) (hw _ (List.mem_of_getElem? (i := 6) rfl)) (hw _ (List.mem_of_getElem? (i := 32) rfl)) (by decide) (rm5 l Z a0 hw [] b2 nv h8 n0 X8.size Fc8_0) pd_58 rfl rfl rfl (Nat.le_of_eq rfl) (by decide) (fun v12 T12 h12 X12 q12 => ?_)
      obtain ⟨rfl, rfl⟩ := q12
      refine w_iload (pc' := 55) X12 at_53 rfl rfl ?_
      refine w_icmp_ne (pc1 := 62) (pc2 := 58) X12 at_55 (by decide) (fun (hc55 : (own_val nv) ≠ (1 : Int32)) => absurd (by simp [own_val, own_z hc29 hc38]) hc55) (fun (hc55 : (own_val nv) = (1 : Int32)) => ?_)
      refine w_iconst (pc' := 59) (z := (1 : Int32)) X12 at_58 rfl rfl ?_
      refine w_goto (pc' := 63) X12 at_59 (by decide) ?_
      exact w_nreturn (t := .boolean) X12 at_63 rfl (by simp) (rfl)
set_option maxRecDepth 65536 in
set_option maxHeartbeats 40000000 in
theorem comes_1 {Post : Tables → Env → Array Value → State → Outcome → State → Prop} (hpost : ∀ tb e args s v u, (limb_1_1.after args s (.returned v) u = true ∧ limb_1_2.after args s (.returned v) u = true ∧ True) → FrameEnd s (.returned v) u (Jvm.fieldLocs frame_1_writes args s ++ Jvm.arrayLocs frame_1_arrays args s ++ Jvm.staticLocs frame_1_statics s) 16 128 → Post tb e args s (.returned v) u) :
    ArmFor flags0 classFile x code maxLocals ret World_1 tables_1 room_1 Calls_1 rest_1 Pre_1 Post := by
  intro l hfl _ _ p e ha hc hk s m args below hf hA hF happ hP
  obtain ⟨hcalls, hrest, hpre⟩ := hP
  obtain ⟨-, -, -, hnamed, -, -, -, hat⟩ := (Spec.applies_iff hf).mp happ
  obtain ⟨hg, hn⟩ := and_e (Cond.before_iff.mp (show (Jvm.Cond.and given_1 narrow_1).before args s = true from hpre))
  obtain ⟨ga0, gb0⟩ := and_e hg
  obtain ⟨ga1, gb1⟩ := and_e gb0
  obtain ⟨ga2, gb2⟩ := and_e gb1
  obtain ⟨ga3, gb3⟩ := and_e gb2
  obtain ⟨ga4, gb4⟩ := and_e gb3
  obtain ⟨ga5, gb5⟩ := and_e gb4
  obtain ⟨w0, w1, w2, w3, w4, w5, rfl⟩ : ∃ w0 w1 w2 w3 w4 w5 : Value, args = #[w0, w1, w2, w3, w4, w5] := by
    have hs : args.size = 6 := by simpa [Cond.value, given_1] using ga0
    obtain ⟨L⟩ := args
    match L, hs with
    | [w0, w1, w2, w3, w4, w5], _ => exact ⟨w0, w1, w2, w3, w4, w5, rfl⟩
  have hw := fun d (hd : d ∈ tables_1) => atoms_spec (ws := Jvm.Cond.code x code maxLocals ret :: tables_1) hat d (List.mem_cons_of_mem _ hd)
  obtain ⟨i0, ei0⟩ := isL_v ga1
  obtain rfl : w0 = (.long i0) := Option.some.inj ei0
  obtain ⟨i1, ei1⟩ := is_v ga2
  obtain rfl : w1 = (.int i1) := Option.some.inj ei1
  obtain ⟨i2, ei2⟩ := isL_v ga3
  obtain rfl : w2 = (.long i2) := Option.some.inj ei2
  obtain ⟨i3, ei3⟩ := is_v ga4
  obtain rfl : w3 = (.int i3) := Option.some.inj ei3
  obtain ⟨i4, ei4⟩ := is_v ga5
  obtain rfl : w4 = (.int i4) := Option.some.inj ei4
  obtain ⟨i5, ei5⟩ := is_v gb5
  obtain rfl : w5 = (.int i5) := Option.some.inj ei5
  obtain ⟨n, o, h1, h2, h3, _, L, rfl, ⟨N, -, rfl⟩, hq⟩ := rm0 l s _ hw tables_1 i0 i1 i2 i3 i4 i5 s.heap s.heap.size (Nat.le_refl _) p e ha hc hk s m _ below hf ((Spec.applies_iff_loose hf).mp happ).1 ⟨rfl, State.Warmed39.refl s, rfl⟩ trivial
  refine ⟨n, _, h1, h2, h3, hpost _ _ _ _ _ _ ⟨Cond.after_iff.mpr rfl, Cond.after_iff.mpr (eq_i res_at (Term.int_eval (1)) rfl), trivial⟩ ⟨hq.1, hq.2.1, (hq.2.2.sift fun y hy => Or.inr (N y hy)).mono (by decide) (by decide)⟩⟩
theorem main_1_1 : Claimed_1_1 := comes_1 fun _ _ _ _ _ _ h hF => ⟨h.1, hF⟩
theorem main_1_2 : Claimed_1_2 := comes_1 fun _ _ _ _ _ _ h hF => ⟨h.2.1, hF⟩
end Jvm.Pilot.@@N@@
namespace Jvm.Pilot.@@N@@
open Jvm Jvm.ClassFile Sem Op Lib Jvm.Free Jvm.Stand Jvm.Pilot.@@N@@.Jvm.D
/-! MADE BY PROGRAM (witnessworld.py) out of the Statement's table words and the real class files: 10 classes; the members and pool entries that the words name. The judged class is class 1, her method 2. -/
namespace start1
open Jvm.ClassFile
def u (s : String) : CpInfo := .utf8 (stringToUtf16 s)
/-- a pool by its gaps: so many unusable entries, then the entry; so many at the end -/
def gap : Nat → List CpInfo → List CpInfo
  | 0, r => r
  | n + 1, r => .unusable :: gap n r
def poolList (es : List (Nat × CpInfo)) (last : Nat) : List CpInfo := es.foldr (fun e r => gap e.1 (e.2 :: r)) (gap last [])
def pool (es : List (Nat × CpInfo)) (last : Nat) : Array CpInfo := ⟨poolList es last⟩
def fileOf (pool : Array CpInfo) (this : Nat) (attrs : Array Attribute := #[]) (ms : Array MethodInfo := #[]) (fl : Nat := 33) (sup : Nat := 0) (ifs : Array Nat := #[]) (fds : Array FieldInfo := #[]) : ClassFile where
  minorVersion := 0
  majorVersion := 65
  constantPool := pool
  accessFlags := fl
  thisClass := this
  superClass := sup
  interfaces := ifs
  fields := fds
  methods := ms
  attributes := attrs
def plain (name : String) (sup : Option ClassId) : Class where
  name := name
  kind := .ordinary
  loader := none
  accessFlags := 33
  super := sup
  interfaces := #[]
  cf := none
  fields := #[]
  methods := #[]
  instanceTypes := #[]
  staticTypes := #[]
  resolved := #[]
  callSites := []
  init := .initialized
  statics := none
  mirror := none

def pool0 : Array CpInfo := pool [(5, u "<init>"), (0, u "()V"), (1, .class_ 10), (1, u "java/lang/Object")] 113

def k0c0 : Code := { maxStack := 0, maxLocals := 1, code := object_method_1_code, exceptionTable := #[], attributes := #[] }
def k0m0 : Method := { name := "<init>", desc := "()V", sig := { parameters := [], returnType := none }, accessFlags := 1, code := some k0c0 }
/-- java/lang/Object -/
def k0 : Class := { plain "java/lang/Object" none with
  accessFlags := 33
  interfaces := #[]
  cf := some (fileOf pool0 8 #[] #[{ accessFlags := 1, nameIndex := 5, descriptorIndex := 6, attributes := #[] }] 33 0 #[] #[])
  fields := #[]
  methods := #[k0m0]
  instanceTypes := #[]
  staticTypes := #[]
  resolved := Array.replicate 124 none
  statics := none }

def pool1 : Array CpInfo := pool [(2, .class_ 4), (1, u "java/lang/Object"), (0, u "<init>"), (0, u "()V"), (0, .methodref 8 9), (0, .class_ 10), (0, .nameAndType 11 12), (0, u "com/example/waveloom/waveloom/CountsValid360PinLaw"), (0, u "pickViolations"), (0, u "(JI)J"), (0, .class_ 14), (0, u "com/example/waveloom/waveloom/Verdict$Counts"), (0, .methodref 13 16), (0, .nameAndType 5 17), (0, u "(JIJII)V"), (0, .long 18446744073709551615), (1, .methodref 13 21), (0, .nameAndType 22 23), (0, u "valid"), (0, u "()Z"), (3, u "law"), (0, u "(JIJIII)Z")] 6

def k1m0 : Method := { name := "<init>", desc := "()V", sig := { parameters := [], returnType := none }, accessFlags := 2, code := none }
def k1c1 : Code := { maxStack := 2, maxLocals := 4, code := method_2_code, exceptionTable := #[], attributes := #[] }
def k1m1 : Method := { name := "pickViolations", desc := "(JI)J", sig := { parameters := [.long, .int], returnType := some .long }, accessFlags := 10, code := some k1c1 }
def k1c2 : Code := { maxStack := 9, maxLocals := 12, code := code, exceptionTable := #[], attributes := #[] }
def k1m2 : Method := { name := "law", desc := "(JIJIII)Z", sig := { parameters := [.long, .int, .long, .int, .int, .int], returnType := some .boolean }, accessFlags := 9, code := some k1c2 }
/-- com/example/waveloom/waveloom/CountsValid360PinLaw -/
def k1 : Class := { plain "com/example/waveloom/waveloom/CountsValid360PinLaw" (some 0) with
  accessFlags := 49
  interfaces := #[]
  cf := some (fileOf pool1 8 #[] #[{ accessFlags := 2, nameIndex := 5, descriptorIndex := 6, attributes := #[] }, { accessFlags := 10, nameIndex := 11, descriptorIndex := 12, attributes := #[] }, { accessFlags := 9, nameIndex := 27, descriptorIndex := 28, attributes := #[] }] 49 2 #[] #[])
  fields := #[]
  methods := #[k1m0, k1m1, k1m2]
  instanceTypes := #[]
  staticTypes := #[]
  resolved := Array.replicate 35 none
  statics := none }

def pool2 : Array CpInfo := pool [(1, .methodref 2 3), (0, .class_ 4), (0, .nameAndType 5 6), (0, u "java/lang/Object"), (0, u "<init>"), (0, u "()V"), (0, .class_ 8), (0, u "java/lang/Record")] 13

def k2c0 : Code := { maxStack := 1, maxLocals := 1, code := jdk_30_method_1_code, exceptionTable := #[], attributes := #[] }
def k2m0 : Method := { name := "<init>", desc := "()V", sig := { parameters := [], returnType := none }, accessFlags := 4, code := some k2c0 }
/-- java/lang/Record -/
def k2 : Class := { plain "java/lang/Record" (some 0) with
  accessFlags := 1057
  interfaces := #[]
  cf := some (fileOf pool2 7 #[] #[{ accessFlags := 4, nameIndex := 5, descriptorIndex := 6, attributes := #[] }] 1057 2 #[] #[])
  fields := #[]
  methods := #[k2m0]
  instanceTypes := #[]
  staticTypes := #[]
  resolved := Array.replicate 22 none
  statics := none }

def pool3 : Array CpInfo := pool [(1, .methodref 2 3), (0, .class_ 4), (0, .nameAndType 5 6), (0, u "java/lang/Record"), (0, u "<init>"), (0, u "()V"), (0, .fieldref 8 9), (0, .class_ 10), (0, .nameAndType 11 12), (0, u "com/example/waveloom/waveloom/Verdict$Counts"), (0, u "violations"), (0, u "J"), (0, .fieldref 8 14), (0, .nameAndType 15 16), (0, u "lightpaths"), (0, u "I"), (0, .fieldref 8 18), (0, .nameAndType 19 12), (0, u "wavelengths"), (0, .fieldref 8 21), (0, .nameAndType 22 16), (0, u "conversions"), (0, .fieldref 8 24), (0, .nameAndType 25 16), (0, u "maxConversions"), (12, u "(JIJII)V"), (3, u "valid"), (0, u "()Z"), (8, .class_ 53), (0, u "com/example/waveloom/waveloom/Verdict")] 23

def k3c0 : Code := { maxStack := 3, maxLocals := 8, code := prog_56_method_1_code, exceptionTable := #[], attributes := #[] }
def k3m0 : Method := { name := "<init>", desc := "(JIJII)V", sig := { parameters := [.long, .int, .long, .int, .int], returnType := none }, accessFlags := 1, code := some k3c0 }
def k3c1 : Code := { maxStack := 4, maxLocals := 1, code := prog_56_method_2_code, exceptionTable := #[], attributes := #[] }
def k3m1 : Method := { name := "valid", desc := "()Z", sig := { parameters := [], returnType := some .boolean }, accessFlags := 1, code := some k3c1 }
/-- com/example/waveloom/waveloom/Verdict$Counts -/
def k3 : Class := { plain "com/example/waveloom/waveloom/Verdict$Counts" (some 2) with
  accessFlags := 49
  interfaces := #[]
  cf := some (fileOf pool3 8 #[.nestHost 52] #[{ accessFlags := 1, nameIndex := 5, descriptorIndex := 38, attributes := #[] }, { accessFlags := 1, nameIndex := 42, descriptorIndex := 43, attributes := #[] }] 49 2 #[] #[{ accessFlags := 18, nameIndex := 11, descriptorIndex := 12, attributes := #[] }, { accessFlags := 18, nameIndex := 15, descriptorIndex := 16, attributes := #[] }, { accessFlags := 18, nameIndex := 19, descriptorIndex := 12, attributes := #[] }, { accessFlags := 18, nameIndex := 22, descriptorIndex := 16, attributes := #[] }, { accessFlags := 18, nameIndex := 25, descriptorIndex := 16, attributes := #[] }])
  fields := #[{ name := "violations", type := .long, accessFlags := 18, slot := 0, constantValue := 0 }, { name := "lightpaths", type := .int, accessFlags := 18, slot := 1, constantValue := 0 }, { name := "wavelengths", type := .long, accessFlags := 18, slot := 2, constantValue := 0 }, { name := "conversions", type := .int, accessFlags := 18, slot := 3, constantValue := 0 }, { name := "maxConversions", type := .int, accessFlags := 18, slot := 4, constantValue := 0 }]
  methods := #[k3m0, k3m1]
  instanceTypes := #[.long, .int, .long, .int, .int]
  staticTypes := #[]
  resolved := Array.replicate 77 none
  statics := none }

def pool4 : Array CpInfo := pool [(1, u "java/lang/Cloneable"), (0, .class_ 1), (0, u "java/lang/Object"), (0, .class_ 3)] 3

/-- java/lang/Cloneable -/
def k4 : Class := { plain "java/lang/Cloneable" (some 0) with
  accessFlags := 1537
  interfaces := #[]
  cf := some (fileOf pool4 2 #[] #[] 1537 4 #[] #[])
  fields := #[]
  methods := #[]
  instanceTypes := #[]
  staticTypes := #[]
  resolved := Array.replicate 8 none
  statics := none }

def pool5 : Array CpInfo := pool [(1, u "java/io/Serializable"), (0, .class_ 1), (0, u "java/lang/Object"), (0, .class_ 3)] 3

/-- java/io/Serializable -/
def k5 : Class := { plain "java/io/Serializable" (some 0) with
  accessFlags := 1537
  interfaces := #[]
  cf := some (fileOf pool5 2 #[] #[] 1537 4 #[] #[])
  fields := #[]
  methods := #[]
  instanceTypes := #[]
  staticTypes := #[]
  resolved := Array.replicate 8 none
  statics := none }

/-- the primitive byte -/
def k6 : Class := { plain "byte" none with kind := .primitive 'B', accessFlags := 0x411 }
/-- [B -/
def k7 : Class := { plain "[B" (some 0) with kind := .array 6 .byte, interfaces := #[4, 5], accessFlags := 1041 }

/-- the primitive int -/
def k8 : Class := { plain "int" none with kind := .primitive 'I', accessFlags := 0x411 }
/-- [I -/
def k9 : Class := { plain "[I" (some 0) with kind := .array 8 .int, interfaces := #[4, 5], accessFlags := 1041 }

def heap : Heap := #[]
def classes : Array Class := #[k0, k1, k2, k3, k4, k5, k6, k7, k8, k9]
def interned : List (Array UInt16 × Addr) := []
def slotsUsed : Nat := 0
def theMethod : MethodId := ⟨1, 2⟩
def args0 : Array Value := #[.long 3, .int 5, .long 7, .int 1, .int 4, .int 2]
def aboutOver (below : List Frame) : State where
  vm := { classes := classes, interned := interned.toArray }
  heap := heap
  slotsUsed := slotsUsed
  threads := #[{ frames := .invoking theMethod args0 :: below }]
def below0 : List Frame := [.native { method := ⟨0, 0⟩, args := #[] }]
def about1 : State := aboutOver below0
def p0 : Program := .bare "" "" ""
def e0 : Env := launch0.env 0 0 0
theorem w_frames : about1.frames = Frame.invoking theMethod args0 :: below0 := rfl
set_option maxRecDepth 65536 in
theorem w_args : argsFit about1.vm theMethod args0 = true := by decide +kernel
set_option maxRecDepth 65536 in
theorem w_heap : heapFits about1 = true := by decide +kernel
set_option maxRecDepth 65536 in
theorem w_runnable : about1.curStatus? = some .runnable := by decide +kernel
set_option maxRecDepth 65536 in
theorem w_alone : about1.alone = true := by decide +kernel
set_option maxRecDepth 65536 in
theorem w_named : about1.methodNamed? x = some theMethod := by decide +kernel
set_option maxRecDepth 65536 in
theorem w_hears : about1.hears theMethod below0 = true := by decide +kernel
set_option maxRecDepth 65536 in
theorem w_ripe : about1.ripe theMethod args0 below0 = true := by decide +kernel
theorem w_running : about1.status = .running := rfl
set_option maxRecDepth 65536 in
theorem w_room : about1.hasRoom e0.platform room_1 = true :=
  launch0.hasRoom_least _ room_1 (by decide +kernel) (by decide +kernel) (by decide +kernel) (by decide +kernel) (by decide +kernel) (by decide +kernel)
theorem allAtoms_all (ts : List Jvm.Cond) (a : Array Jvm.Value) (st : Jvm.State) : (allAtoms ts).before a st = ts.all (fun c => c.before a st) := by
  induction ts with
  | nil => rfl
  | cons c t ih =>
    show (Jvm.Cond.and c (allAtoms t)).before a st = _
    rw [Jvm.Cond.before_and, ih, List.all_cons]
def words1 : List Jvm.Cond := Jvm.Cond.code x code maxLocals ret :: tables_1
/-- a 'code' word, met by the world's own term for the bytes: nothing is compared byte by byte -/
theorem code_word {y : MethodName} {bytes : ByteArray} {mx : Nat} {rt : Option FieldType} {a : Array Value} {s : State} {m : MethodId} {meth : Method} {c : Code} (h1 : s.methodNamed? y = some m) (h2 : s.vm.method? m = some meth) (h3 : meth.code = some c) (h4 : c.code = bytes)
    (h5 : (c.maxLocals == mx && c.exceptionTable.isEmpty && decide (c.maxStack ≤ mostOperands) && decide (meth.sig.returnType = rt) && !meth.locks && decide (parseMethodDescriptor y.desc = some meth.sig)) = true) : (Jvm.Cond.code y bytes mx rt).before a s = true := by
  simp only [Bool.and_eq_true, beq_iff_eq, Bool.not_eq_true', decide_eq_true_eq] at h5
  obtain ⟨⟨⟨⟨⟨g1, g2⟩, g3⟩, g4⟩, g5⟩, g6⟩ := h5
  simp [Cond.before, Cond.holds, Cond.value, h1, h2, h3, h4, g1, g2, g3, g4, g5, g6]
def isCode : Jvm.Cond → Bool
  | .code _ _ _ _ => true
  | _ => false
theorem all_split {L : List Jvm.Cond} {P : Jvm.Cond → Bool} (h1 : L.all (fun c => isCode c || P c) = true) (h2 : ∀ c ∈ L.filter isCode, P c = true) : L.all P = true := by
  refine List.all_eq_true.mpr fun c hc => ?_
  have h := List.all_eq_true.mp h1 c hc
  rcases Bool.eq_false_or_eq_true (isCode c) with hi | hi
  · exact h2 c (List.mem_filter.mpr ⟨hc, hi⟩)
  · simpa [hi] using h
set_option maxRecDepth 65536 in
theorem w_c0 : (Jvm.Cond.code x code maxLocals ret).before args0 about1 = true := code_word (m := ⟨1, 2⟩) (meth := k1m2) (c := k1c2) (by decide +kernel) rfl rfl rfl (by decide +kernel)
set_option maxRecDepth 65536 in
theorem w_c1 : (Jvm.Cond.code ({ cls := "com/example/waveloom/waveloom/CountsValid360PinLaw", name := "pickViolations", desc := "(JI)J" } : Jvm.MethodName) method_2_code (4 : Nat) (Option.some Jvm.ClassFile.FieldType.long)).before args0 about1 = true := code_word (m := ⟨1, 1⟩) (meth := k1m1) (c := k1c1) (by decide +kernel) rfl rfl rfl (by decide +kernel)
set_option maxRecDepth 65536 in
theorem w_c2 : (Jvm.Cond.code ({ cls := "com/example/waveloom/waveloom/Verdict$Counts", name := "<init>", desc := "(JIJII)V" } : Jvm.MethodName) prog_56_method_1_code (8 : Nat) (Option.none : Option Jvm.ClassFile.FieldType)).before args0 about1 = true := code_word (m := ⟨3, 0⟩) (meth := k3m0) (c := k3c0) (by decide +kernel) rfl rfl rfl (by decide +kernel)
set_option maxRecDepth 65536 in
theorem w_c3 : (Jvm.Cond.code ({ cls := "java/lang/Record", name := "<init>", desc := "()V" } : Jvm.MethodName) jdk_30_method_1_code (1 : Nat) (Option.none : Option Jvm.ClassFile.FieldType)).before args0 about1 = true := code_word (m := ⟨2, 0⟩) (meth := k2m0) (c := k2c0) (by decide +kernel) rfl rfl rfl (by decide +kernel)
set_option maxRecDepth 65536 in
theorem w_c4 : (Jvm.Cond.code ({ cls := "java/lang/Object", name := "<init>", desc := "()V" } : Jvm.MethodName) object_method_1_code (1 : Nat) (Option.none : Option Jvm.ClassFile.FieldType)).before args0 about1 = true := code_word (m := ⟨0, 0⟩) (meth := k0m0) (c := k0c0) (by decide +kernel) rfl rfl rfl (by decide +kernel)
set_option maxRecDepth 65536 in
theorem w_c5 : (Jvm.Cond.code ({ cls := "com/example/waveloom/waveloom/Verdict$Counts", name := "valid", desc := "()Z" } : Jvm.MethodName) prog_56_method_2_code (1 : Nat) (Option.some Jvm.ClassFile.FieldType.boolean)).before args0 about1 = true := code_word (m := ⟨3, 1⟩) (meth := k3m1) (c := k3c1) (by decide +kernel) rfl rfl rfl (by decide +kernel)
def codes1 : List Jvm.Cond := [Jvm.Cond.code x code maxLocals ret, Jvm.Cond.code ({ cls := "com/example/waveloom/waveloom/CountsValid360PinLaw", name := "pickViolations", desc := "(JI)J" } : Jvm.MethodName) method_2_code (4 : Nat) (Option.some Jvm.ClassFile.FieldType.long), Jvm.Cond.code ({ cls := "com/example/waveloom/waveloom/Verdict$Counts", name := "<init>", desc := "(JIJII)V" } : Jvm.MethodName) prog_56_method_1_code (8 : Nat) (Option.none : Option Jvm.ClassFile.FieldType), Jvm.Cond.code ({ cls := "java/lang/Record", name := "<init>", desc := "()V" } : Jvm.MethodName) jdk_30_method_1_code (1 : Nat) (Option.none : Option Jvm.ClassFile.FieldType), Jvm.Cond.code ({ cls := "java/lang/Object", name := "<init>", desc := "()V" } : Jvm.MethodName) object_method_1_code (1 : Nat) (Option.none : Option Jvm.ClassFile.FieldType), Jvm.Cond.code ({ cls := "com/example/waveloom/waveloom/Verdict$Counts", name := "valid", desc := "()Z" } : Jvm.MethodName) prog_56_method_2_code (1 : Nat) (Option.some Jvm.ClassFile.FieldType.boolean)]
set_option maxRecDepth 65536 in
theorem codes_eq : words1.filter isCode = codes1 := rfl
theorem w_codes : ∀ c ∈ words1.filter isCode, c.before args0 about1 = true := by
  rw [codes_eq]
  intro c hc
  simp only [codes1, List.mem_cons, List.not_mem_nil, or_false] at hc
  rcases hc with rfl | rfl | rfl | rfl | rfl | rfl
  · exact w_c0
  · exact w_c1
  · exact w_c2
  · exact w_c3
  · exact w_c4
  · exact w_c5
set_option maxRecDepth 65536 in
theorem w_t1 : (words1.take 24).all (fun c => isCode c || c.before args0 about1) = true := by decide +kernel
set_option maxRecDepth 65536 in
theorem w_t2 : (words1.drop 24).all (fun c => isCode c || c.before args0 about1) = true := by decide +kernel
theorem w_tables : (allAtoms (Jvm.Cond.code x code maxLocals ret :: tables_1)).before args0 about1 = true := by
  rw [allAtoms_all]
  show words1.all (fun c => c.before args0 about1) = true
  refine all_split ?_ w_codes
  rw [← List.take_append_drop 24 words1, List.all_append, w_t1, w_t2]
  rfl
set_option maxRecDepth 65536 in
theorem w_case : (Jvm.Cond.and given_1 narrow_1).before args0 about1 = true := by decide +kernel
theorem w_applies : (headSpec (Jvm.Cond.code x code maxLocals ret :: tables_1) room_1).applies x e0.platform about1 = true :=
  (Spec.applies_iff w_frames).mpr ⟨w_running, w_runnable, w_alone, w_named, w_hears, w_ripe, w_room, w_tables⟩
theorem atStart : AtStart classFile x code maxLocals ret World_1 tables_1 room_1 Calls_1 rest_1 Pre_1 launch0 p0 e0 about1 theMethod args0 below0 :=
  ⟨lists_1, trivial, launch0.admits_env _ _ _, launch0.least_env, fairChoices_fair.cas, fairChoices_fair.clock, w_frames, w_args, w_heap, w_applies, trivial, trivial, w_case⟩
end start1
theorem witness_1 : WitnessClaimed_1 := ⟨start1.p0, start1.e0, start1.about1, start1.theMethod, start1.args0, start1.below0, start1.atStart⟩
end Jvm.Pilot.@@N@@
