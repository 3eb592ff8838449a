import JvmDerived
import JvmDerived.Pilot.@@N@@Statement
import JvmDerived.Pilot.@@N@@Code
set_option linter.unusedVariables false
set_option linter.unusedSimpArgs false
@@BLOCK:NumsL.lean.txt@@
namespace Jvm.OwnW
open Jvm Jvm.ClassFile Sem Op Lib Jvm.Free Jvm.Stand Jvm.LawKit Jvm.RoadKit
/-! what is left to be shown, and where the run stands -/
def Qc (n0 : Nat) (Q : Option Value → Heap → Prop) (v : Option Value) (h : Heap) (L : List Loc) : Prop := Fr n0 L ∧ n0 ≤ h.size ∧ Q v h
def W (p : Program) (e : Env) (below : List Frame) (s : State) (R : Room) (n0 : Nat) (Q : Option Value → Heap → Prop) (S0 : State) : Prop :=
  ∃ s₂ o, Steps p.tables e below S0 s₂ ∧ s₂.status = .running ∧ Ended s₂ below o ∧ ∃ v L, o = .returned v ∧ Qc n0 Q v s₂.heap L ∧ FrameEnd s o s₂ L R.cells R.slots
def Sn (Z : State) (n0 : Nat) (bs : ByteArray) (mx : Nat) (own nm : String) (ret : Option FieldType) (p : Program) (l : Launch) (e : Env) (R : Room) (s : State) (m : MethodId) (args : Array Value) (below : List Frame) (meth : Method) (c : Code) (T : State) (h : Heap) (cells slots : Nat) : Prop :=
  ∃ locs, Stand p l e R s m args below meth c T locs cells slots ∧ T.heap = h ∧ Fr n0 locs ∧ n0 ≤ h.size ∧ cells ≤ R.cells ∧ slots ≤ R.slots ∧ p.tables.exec = Jvm.exec ∧ Z.Warmed39 s.vm ∧ c.code = bs ∧ c.maxLocals = mx ∧ s.vm.findClass own = some m.cls ∧ meth.name = nm ∧ meth.sig.returnType = ret ∧ meth.locks = false
def Ct (l : Launch) (Z : State) (y : MethodName) (bs : ByteArray) (mx : Nat) (ret : Option FieldType) (ws : List Jvm.Cond) (R : Room) (as' : Array Value) (h : Heap) (n0 : Nat) (Q : Option Value → Heap → Prop) : Prop :=
  MetFree l y (head1 (Cond.code y bs mx ret :: ws) R) (fun a U => a = as' ∧ Z.Warmed39 U.vm ∧ U.heap = h) (fun _ _ _ _ _ => True) (fun _ U o U' => ∃ v L, o = .returned v ∧ Qc n0 Q v U'.heap L ∧ FrameEnd U o U' L R.cells R.slots)
theorem Ct.of {l : Launch} {Z : State} {y : MethodName} {bs : ByteArray} {mx : Nat} {ret : Option FieldType} {ws : List Jvm.Cond} {R : Room} {as' : Array Value} {h : Heap} {n0 : Nat} {Q : Option Value → Heap → Prop} {Ls : Array Slot}
    (hp : plainFor y = true) (hn : n0 ≤ h.size) (he : ∀ m, entryFrame m as' mx = mkF m 0 Ls [])
    (body : ∀ p e s m below meth c T, Sn Z n0 bs mx y.cls y.name ret p l e R s m as' below meth c T h 0 0 → W p e below s R n0 Q (T.setTop (mkF m 0 Ls []))) : Ct l Z y bs mx ret ws R as' h n0 Q := by
  refine MetFree.of_bodySF hp hisR ?_
  intro p e s m args below meth c s₁ Bd hml0 hP hK
  obtain ⟨rfl, hZ, hh⟩ := hP
  have X0 : Stand p l e R s m args below meth c s₁ [] 0 0 := Stand.of_body Bd
  have e0 : s₁.heap = h := by rw [← hh, Bd.state]; rfl
  obtain ⟨s2, o, st, r⟩ := body p e s m below meth c s₁ ⟨[], X0, e0, Fr.nil n0, hn, Nat.zero_le _, Nat.zero_le _, Bd.exec, hZ, Bd.bytes, hml0, findClass_of_methodNamed Bd.named, (name_of_methodNamed Bd.named Bd.method).1, Bd.returns, Bd.notSynchronized⟩
  exact ⟨s2, o, castTop (he m) st, r⟩
/-! the shifts, by names -/
def lus (x : Int64) (y : Int32) : Int64 := (x.toUInt64 >>> (y &&& 0x3f).toInt64.toUInt64).toInt64
def lsl (x : Int64) (y : Int32) : Int64 := x <<< (y &&& 0x3f).toInt64
def lsr (x : Int64) (y : Int32) : Int64 := x >>> (y &&& 0x3f).toInt64
def ius (x : Int32) (y : Int32) : Int32 := (x.toUInt32 >>> (y &&& 31).toUInt32).toInt32
def isl (x : Int32) (y : Int32) : Int32 := x <<< (y &&& 31)
def isr (x : Int32) (y : Int32) : Int32 := x >>> (y &&& 31)
theorem sh_u : ∀ k : Nat, k < 64 → ((Int32.ofNat k &&& 0x3f).toInt64.toUInt64.toBitVec % 64).toNat = k := by decide +kernel
theorem sh_s : ∀ k : Nat, k < 64 → ((Int32.ofNat k &&& 0x3f).toInt64.toBitVec.smod 64).toNat = k := by decide +kernel
theorem sh_u32 : ∀ k : Nat, k < 32 → ((Int32.ofNat k &&& 31).toUInt32.toBitVec % 32).toNat = k := by decide +kernel
theorem sh_s32 : ∀ k : Nat, k < 32 → ((Int32.ofNat k &&& 31).toBitVec.smod 32).toNat = k := by decide +kernel
theorem lusB (x : Int64) {k : Nat} (hk : k < 64) : (lus x (Int32.ofNat k)).toBitVec = x.toBitVec >>> k := by
  show (x.toUInt64 >>> (Int32.ofNat k &&& 0x3f).toInt64.toUInt64).toBitVec = _
  rw [UInt64.toBitVec_shiftRight, BitVec.ushiftRight_eq', sh_u k hk]; rfl
theorem lslB (x : Int64) {k : Nat} (hk : k < 64) : (lsl x (Int32.ofNat k)).toBitVec = x.toBitVec <<< k := by
  unfold lsl
  rw [Int64.toBitVec_shiftLeft, BitVec.shiftLeft_eq', sh_s k hk]
theorem lsrB (x : Int64) {k : Nat} (hk : k < 64) : (lsr x (Int32.ofNat k)).toBitVec = x.toBitVec.sshiftRight k := by
  unfold lsr
  rw [Int64.toBitVec_shiftRight, BitVec.sshiftRight_eq', sh_s k hk]
theorem iusB (x : Int32) {k : Nat} (hk : k < 32) : (ius x (Int32.ofNat k)).toBitVec = x.toBitVec >>> k := by
  show (x.toUInt32 >>> (Int32.ofNat k &&& 31).toUInt32).toBitVec = _
  rw [UInt32.toBitVec_shiftRight, BitVec.ushiftRight_eq', sh_u32 k hk]; rfl
theorem isrB (x : Int32) {k : Nat} (hk : k < 32) : (isr x (Int32.ofNat k)).toBitVec = x.toBitVec.sshiftRight k := by
  unfold isr
  rw [Int32.toBitVec_shiftRight, BitVec.sshiftRight_eq', sh_s32 k hk]
/-- the long read without its sign -/
def un (x : Int64) : Nat := x.toBitVec.toNat
theorem un_inj {x y : Int64} (h : un x = un y) : x = y := Int64.toBitVec_inj.mp (BitVec.eq_of_toNat_eq h)
theorem un_lt (x : Int64) : un x < 2 ^ 64 := x.toBitVec.isLt
theorem un_of_nonneg {x : Int64} (h : 0 ≤ x.toInt) : (un x : Int) = x.toInt ∧ un x < 2 ^ 63 := by
  have e : x.toInt = if 2 * un x < 2 ^ 64 then (un x : Int) else (un x : Int) - ((2 ^ 64 : Nat) : Int) := BitVec.toInt_eq_toNat_cond _
  have l := un_lt x
  by_cases q : 2 * un x < 2 ^ 64
  · rw [if_pos q] at e; omega
  · rw [if_neg q] at e; omega
theorem un_lus (x : Int64) {k : Nat} (hk : k < 64) : un (lus x (Int32.ofNat k)) = un x / 2 ^ k := by
  unfold un; rw [lusB x hk, BitVec.toNat_ushiftRight, Nat.shiftRight_eq_div_pow]
theorem un_lsl (x : Int64) {k : Nat} (hk : k < 64) : un (lsl x (Int32.ofNat k)) = un x * 2 ^ k % 2 ^ 64 := by
  unfold un; rw [lslB x hk, BitVec.toNat_shiftLeft, Nat.shiftLeft_eq]
theorem un_or (x y : Int64) : un (x ||| y) = un x ||| un y := by
  unfold un; rw [Int64.toBitVec_or, BitVec.toNat_or]
theorem un_and (x y : Int64) : un (x &&& y) = un x &&& un y := by
  unfold un; rw [Int64.toBitVec_and, BitVec.toNat_and]
theorem un_mask (x m : Int64) {k : Nat} (hm : un m = 2 ^ k - 1) : un (x &&& m) = un x % 2 ^ k := by
  rw [un_and, hm, Nat.and_two_pow_sub_one_eq_mod]
theorem toInt_of_un {x : Int64} (h : un x < 2 ^ 63) : x.toInt = un x := by
  have e : x.toInt = x.toBitVec.toInt := rfl
  rw [e, BitVec.toInt_eq_toNat_cond]
  unfold un at *
  rw [if_pos (by omega)]
theorem lus_nonneg {x : Int64} (h : 0 ≤ x.toInt) {k : Nat} (hk : k < 64) : (lus x (Int32.ofNat k)).toInt = x.toInt / 2 ^ k := by
  have h1 := un_of_nonneg h
  have h2 := un_lus x hk
  have h3 : un x / 2 ^ k ≤ un x := Nat.div_le_self _ _
  rw [toInt_of_un (by omega), h2, ← h1.1]; simp
theorem byteN : ∀ b : BitVec 8, ((Int8.ofBitVec b).toInt32.toInt8.toInt32 &&& 255).toInt64.toBitVec.toNat = b.toNat := by decide +kernel
theorem byteU (v : Int64) : un ((v.toInt32.toInt8.toInt32.toInt8.toInt32 &&& 255).toInt64) = un v % 256 := by
  have e : (v.toInt32.toInt8).toBitVec.toNat = un v % 256 := by
    show ((v.toBitVec.signExtend 32).signExtend 8).toNat = _
    rw [BitVec.signExtend_eq_setWidth_of_le _ (by decide), BitVec.signExtend_eq_setWidth_of_le _ (by decide), BitVec.toNat_setWidth, BitVec.toNat_setWidth]
    unfold un; omega
  have h := byteN v.toInt32.toInt8.toBitVec
  rw [e] at h
  exact h
theorem catU {a c : Int64} {k : Nat} (hk : k < 64) (ha : un a * 2 ^ k < 2 ^ 64) (hc : un c < 2 ^ k) : un (lsl a (Int32.ofNat k) ||| c) = un a * 2 ^ k + un c := by
  rw [un_or, un_lsl a hk, Nat.mod_eq_of_lt ha, ← Nat.shiftLeft_eq, Nat.shiftLeft_add_eq_or_of_lt hc]
/-! an array: its kind, its length, what each place holds -/
def AF (Z : State) (h : Heap) (a : Addr) (ty : FieldType) (n : Nat) (f : Nat → Value) : Prop := ∃ c : Cell, Arr Z h a c ty ∧ c.slots.size = n ∧ n < 2 ^ 31 ∧ ∀ j, j < n → c.slots[j]? = some (f j)
def up (f : Nat → Value) (i : Nat) (v : Value) : Nat → Value := fun j => if j = i then v else f j
section
variable {Z : State} {h h' h0 : Heap} {a b : Addr} {ty : FieldType} {n i sl : Nat} {f g : Nat → Value} {v : Value} {ws : List Addr}
theorem AF.lt (F : AF Z h a ty n f) : a < h.size := by obtain ⟨c, A, -⟩ := F; exact A.lt
theorem AF.len (F : AF Z h a ty n f) : n < 2 ^ 31 := by obtain ⟨c, -, -, q, -⟩ := F; exact q
theorem AF.ext (F : AF Z h a ty n f) (E : Ext h h') : AF Z h' a ty n f := by obtain ⟨c, A, r⟩ := F; exact ⟨c, A.ext E, r⟩
theorem AF.other (F : AF Z h b ty n f) (W : Wr h h' a sl v) (q : b ≠ a) : AF Z h' b ty n f := by obtain ⟨c, A, r⟩ := F; exact ⟨c, A.other W q, r⟩
theorem AF.keep (F : AF Z h a ty n f) (K : Keep h h' ws) (q : a ∉ ws) : AF Z h' a ty n f := by obtain ⟨c, A, r⟩ := F; exact ⟨c, ⟨K.2.1 a c A.1 q, A.2⟩, r⟩
theorem AF.congr (F : AF Z h a ty n f) (q : ∀ j, j < n → f j = g j) : AF Z h a ty n g := by obtain ⟨c, A, r1, r2, r3⟩ := F; exact ⟨c, A, r1, r2, fun j hj => by rw [← q j hj]; exact r3 j hj⟩
theorem AF.set (F : AF Z h a ty n f) (W : Wr h h' a i v) : AF Z h' a ty n (up f i v) := by
  obtain ⟨c, A, r1, r2, r3⟩ := F
  refine ⟨_, A.same W, by rw [sz_set]; exact r1, r2, fun j hj => ?_⟩
  by_cases u : j = i
  · subst u; simp [Cell.setSlot, up, r1, hj]
  · simp only [Cell.setSlot, up, u, if_false]; rw [Array.getElem?_setIfInBounds_ne (Ne.symm u)]; exact r3 j hj
theorem AF.new {k : ClassId} {z : Int32} (A : Arr Z h a (newA k ty z) ty) (q : z.toInt = n) : AF Z h a ty n (fun _ => defaultValue ty) := by
  have := Int32.toInt_lt z
  refine ⟨_, A, by rw [sz_new]; simp only [Int32.toNatClampNeg]; omega, by omega, fun j hj => ?_⟩
  have : j < z.toNatClampNeg := by simp only [Int32.toNatClampNeg]; omega
  simp [newA, this]
theorem up_eq {j : Nat} (q : j = i) : up f i v j = v := if_pos q
theorem up_ne {j : Nat} (q : j ≠ i) : up f i v j = f j := if_neg q
theorem ne_size (q : b = h.size) (r : a < h.size) : a ≠ b := by subst q; exact Nat.ne_of_lt r
theorem Keep.app (K : Keep h0 h ws) (K' : Keep h h' ws) : Keep h0 h' ws := K.trans K' fun x hx => Or.inl hx
end
section
variable {p : Program} {l : Launch} {e : Env} {R : Room} {s : State} {m : MethodId} {args : Array Value} {below : List Frame} {meth : Method} {c : Code} {Z : State} {a0 : Array Value} {n0 : Nat} {bs : ByteArray} {mx : Nat} {own nm : String} {ret : Option FieldType} {T : State} {h : Heap} {cells slots : Nat} {Q : Option Value → Heap → Prop} {pc pc' pc1 pc2 k : Nat} {Ls L' : Array Slot} {st : List Value} {o : Int}
theorem W.of {S0 S1 : State} (q : ∀ t, Steps p.tables e below S1 t → Steps p.tables e below S0 t) (w : W p e below s R n0 Q S1) : W p e below s R n0 Q S0 := by
  obtain ⟨s2, o, st, r⟩ := w; exact ⟨s2, o, q _ st, r⟩
theorem W.fwd {S0 S1 : State} (q : Steps p.tables e below S0 S1) (w : W p e below s R n0 Q S1) : W p e below s R n0 Q S0 := W.of (fun _ k => q.trans k) w
theorem w_topI {x x' : Int32} (q : x = x') (w : W p e below s R n0 Q (T.setTop (mkF m pc Ls (.int x' :: st)))) : W p e below s R n0 Q (T.setTop (mkF m pc Ls (.int x :: st))) := by rw [q]; exact w
theorem w_topJ {x x' : Int64} (q : x = x') (w : W p e below s R n0 Q (T.setTop (mkF m pc Ls (.long x' :: st)))) : W p e below s R n0 Q (T.setTop (mkF m pc Ls (.long x :: st))) := by rw [q]; exact w
theorem Sn.size (X : Sn Z n0 bs mx own nm ret p l e R s m args below meth c T h cells slots) : n0 ≤ h.size := by obtain ⟨_, _, _, _, q, _⟩ := X; exact q
theorem Sn.more (X : Sn Z n0 bs mx own nm ret p l e R s m args below meth c T h cells slots) {cells' slots' : Nat} (q : cells ≤ cells' ∧ slots ≤ slots' ∧ cells' ≤ R.cells ∧ slots' ≤ R.slots) : Sn Z n0 bs mx own nm ret p l e R s m args below meth c T h cells' slots' := by
  obtain ⟨locs, X, r1, r2, r3, -, -, r⟩ := X; exact ⟨locs, X.more q.1 q.2.1, r1, r2, r3, q.2.2.1, q.2.2.2, r⟩
theorem w_iload (X : Sn Z n0 bs mx own nm ret p l e R s m args below meth c T h cells slots) {v : Int32} (hd : decode bs pc = .ok (.iload k, 2)) (hl : Ls[k]? = some (.val (.int v))) (hp : pc + 2 = pc')
    (w : W p e below s R n0 Q (T.setTop (mkF m pc' Ls (.int v :: st)))) : W p e below s R n0 Q (T.setTop (mkF m pc Ls (st))) := by
  obtain ⟨locs, X, eT, N, hs0, hcl, hsl, hx, hZ, rfl, hml, hown, hnm, hret, hlk⟩ := X
  subst hp
  exact W.of (fun t k => XS.iload X.here hx rfl hd hl k) w
theorem w_iloadN (X : Sn Z n0 bs mx own nm ret p l e R s m args below meth c T h cells slots) {v : Int32} {q : Fin 4} (hd : decode bs pc = .ok (.iload_n q, 1)) (hl : Ls[q.val]? = some (.val (.int v))) (hp : pc + 1 = pc')
    (w : W p e below s R n0 Q (T.setTop (mkF m pc' Ls (.int v :: st)))) : W p e below s R n0 Q (T.setTop (mkF m pc Ls (st))) := by
  obtain ⟨locs, X, eT, N, hs0, hcl, hsl, hx, hZ, rfl, hml, hown, hnm, hret, hlk⟩ := X
  subst hp
  exact W.of (fun t k => XS.iloadN X.here hx rfl hd hl k) w
theorem w_istore (X : Sn Z n0 bs mx own nm ret p l e R s m args below meth c T h cells slots) {v : Int32} (hd : decode bs pc = .ok (.istore k, 2)) (hl : storeLocals Ls k (.int v) = some L') (hp : pc + 2 = pc')
    (w : W p e below s R n0 Q (T.setTop (mkF m pc' L' (st)))) : W p e below s R n0 Q (T.setTop (mkF m pc Ls (.int v :: st))) := by
  obtain ⟨locs, X, eT, N, hs0, hcl, hsl, hx, hZ, rfl, hml, hown, hnm, hret, hlk⟩ := X
  subst hp
  exact W.of (fun t k => XS.istore X.here hx rfl hd rfl hl k) w
theorem w_istoreN (X : Sn Z n0 bs mx own nm ret p l e R s m args below meth c T h cells slots) {v : Int32} {q : Fin 4} (hd : decode bs pc = .ok (.istore_n q, 1)) (hl : storeLocals Ls q.val (.int v) = some L') (hp : pc + 1 = pc')
    (w : W p e below s R n0 Q (T.setTop (mkF m pc' L' (st)))) : W p e below s R n0 Q (T.setTop (mkF m pc Ls (.int v :: st))) := by
  obtain ⟨locs, X, eT, N, hs0, hcl, hsl, hx, hZ, rfl, hml, hown, hnm, hret, hlk⟩ := X
  subst hp
  exact W.of (fun t k => XS.istoreN X.here hx rfl hd rfl hl k) w
theorem w_lload (X : Sn Z n0 bs mx own nm ret p l e R s m args below meth c T h cells slots) {v : Int64} (hd : decode bs pc = .ok (.lload k, 2)) (hl : Ls[k]? = some (.val (.long v))) (hp : pc + 2 = pc')
    (w : W p e below s R n0 Q (T.setTop (mkF m pc' Ls (.long v :: st)))) : W p e below s R n0 Q (T.setTop (mkF m pc Ls (st))) := by
  obtain ⟨locs, X, eT, N, hs0, hcl, hsl, hx, hZ, rfl, hml, hown, hnm, hret, hlk⟩ := X
  subst hp
  exact W.of (fun t k => XS.lload X.here hx rfl hd hl k) w
theorem w_lloadN (X : Sn Z n0 bs mx own nm ret p l e R s m args below meth c T h cells slots) {v : Int64} {q : Fin 4} (hd : decode bs pc = .ok (.lload_n q, 1)) (hl : Ls[q.val]? = some (.val (.long v))) (hp : pc + 1 = pc')
    (w : W p e below s R n0 Q (T.setTop (mkF m pc' Ls (.long v :: st)))) : W p e below s R n0 Q (T.setTop (mkF m pc Ls (st))) := by
  obtain ⟨locs, X, eT, N, hs0, hcl, hsl, hx, hZ, rfl, hml, hown, hnm, hret, hlk⟩ := X
  subst hp
  exact W.of (fun t k => XS.lloadN X.here hx rfl hd hl k) w
theorem w_lstore (X : Sn Z n0 bs mx own nm ret p l e R s m args below meth c T h cells slots) {v : Int64} (hd : decode bs pc = .ok (.lstore k, 2)) (hl : storeLocals Ls k (.long v) = some L') (hp : pc + 2 = pc')
    (w : W p e below s R n0 Q (T.setTop (mkF m pc' L' (st)))) : W p e below s R n0 Q (T.setTop (mkF m pc Ls (.long v :: st))) := by
  obtain ⟨locs, X, eT, N, hs0, hcl, hsl, hx, hZ, rfl, hml, hown, hnm, hret, hlk⟩ := X
  subst hp
  exact W.of (fun t k => XS.lstore X.here hx rfl hd rfl hl k) w
theorem w_lstoreN (X : Sn Z n0 bs mx own nm ret p l e R s m args below meth c T h cells slots) {v : Int64} {q : Fin 4} (hd : decode bs pc = .ok (.lstore_n q, 1)) (hl : storeLocals Ls q.val (.long v) = some L') (hp : pc + 1 = pc')
    (w : W p e below s R n0 Q (T.setTop (mkF m pc' L' (st)))) : W p e below s R n0 Q (T.setTop (mkF m pc Ls (.long v :: st))) := by
  obtain ⟨locs, X, eT, N, hs0, hcl, hsl, hx, hZ, rfl, hml, hown, hnm, hret, hlk⟩ := X
  subst hp
  exact W.of (fun t k => XS.lstoreN X.here hx rfl hd rfl hl k) w
theorem w_aload (X : Sn Z n0 bs mx own nm ret p l e R s m args below meth c T h cells slots) {v : Value} (hd : decode bs pc = .ok (.aload k, 2)) (hl : Ls[k]? = some (.val v)) (hv : v.isRef = true) (hp : pc + 2 = pc')
    (w : W p e below s R n0 Q (T.setTop (mkF m pc' Ls (v :: st)))) : W p e below s R n0 Q (T.setTop (mkF m pc Ls (st))) := by
  obtain ⟨locs, X, eT, N, hs0, hcl, hsl, hx, hZ, rfl, hml, hown, hnm, hret, hlk⟩ := X
  subst hp
  exact W.of (fun t k => XS.aload X.here hx rfl hd hl hv k) w
theorem w_aloadN (X : Sn Z n0 bs mx own nm ret p l e R s m args below meth c T h cells slots) {v : Value} {q : Fin 4} (hd : decode bs pc = .ok (.aload_n q, 1)) (hl : Ls[q.val]? = some (.val v)) (hv : v.isRef = true) (hp : pc + 1 = pc')
    (w : W p e below s R n0 Q (T.setTop (mkF m pc' Ls (v :: st)))) : W p e below s R n0 Q (T.setTop (mkF m pc Ls (st))) := by
  obtain ⟨locs, X, eT, N, hs0, hcl, hsl, hx, hZ, rfl, hml, hown, hnm, hret, hlk⟩ := X
  subst hp
  exact W.of (fun t k => XS.aloadN X.here hx rfl hd hl hv k) w
theorem w_astore (X : Sn Z n0 bs mx own nm ret p l e R s m args below meth c T h cells slots) {v : Value} (hd : decode bs pc = .ok (.astore k, 2)) (hv : v.isRef = true) (hl : storeLocals Ls k v = some L') (hp : pc + 2 = pc')
    (w : W p e below s R n0 Q (T.setTop (mkF m pc' L' (st)))) : W p e below s R n0 Q (T.setTop (mkF m pc Ls (v :: st))) := by
  obtain ⟨locs, X, eT, N, hs0, hcl, hsl, hx, hZ, rfl, hml, hown, hnm, hret, hlk⟩ := X
  subst hp
  exact W.of (fun t k => XS.astore X.here hx rfl hd rfl hv hl k) w
theorem w_astoreN (X : Sn Z n0 bs mx own nm ret p l e R s m args below meth c T h cells slots) {v : Value} {q : Fin 4} (hd : decode bs pc = .ok (.astore_n q, 1)) (hv : v.isRef = true) (hl : storeLocals Ls q.val v = some L') (hp : pc + 1 = pc')
    (w : W p e below s R n0 Q (T.setTop (mkF m pc' L' (st)))) : W p e below s R n0 Q (T.setTop (mkF m pc Ls (v :: st))) := by
  obtain ⟨locs, X, eT, N, hs0, hcl, hsl, hx, hZ, rfl, hml, hown, hnm, hret, hlk⟩ := X
  subst hp
  exact W.of (fun t k => XS.astoreN X.here hx rfl hd rfl hv hl k) w
theorem w_iconst (X : Sn Z n0 bs mx own nm ret p l e R s m args below meth c T h cells slots) {z : Int32} (hd : decode bs pc = .ok (.iconst o, 1)) (hz : Int32.ofInt o = z) (hp : pc + 1 = pc')
    (w : W p e below s R n0 Q (T.setTop (mkF m pc' Ls (.int z :: st)))) : W p e below s R n0 Q (T.setTop (mkF m pc Ls (st))) := by
  obtain ⟨locs, X, eT, N, hs0, hcl, hsl, hx, hZ, rfl, hml, hown, hnm, hret, hlk⟩ := X
  subst hp
  exact W.of (fun t k => by subst hz; exact XS.iconst X.here hx rfl hd k) w
theorem w_bipush (X : Sn Z n0 bs mx own nm ret p l e R s m args below meth c T h cells slots) {z : Int32} (hd : decode bs pc = .ok (.bipush o, 2)) (hz : (Int8.ofInt o).toInt32 = z) (hp : pc + 2 = pc')
    (w : W p e below s R n0 Q (T.setTop (mkF m pc' Ls (.int z :: st)))) : W p e below s R n0 Q (T.setTop (mkF m pc Ls (st))) := by
  obtain ⟨locs, X, eT, N, hs0, hcl, hsl, hx, hZ, rfl, hml, hown, hnm, hret, hlk⟩ := X
  subst hp
  exact W.of (fun t k => by subst hz; exact XS.bipush X.here hx rfl hd k) w
theorem w_sipush (X : Sn Z n0 bs mx own nm ret p l e R s m args below meth c T h cells slots) {z : Int32} (hd : decode bs pc = .ok (.sipush o, 3)) (hz : (Int16.ofInt o).toInt32 = z) (hp : pc + 3 = pc')
    (w : W p e below s R n0 Q (T.setTop (mkF m pc' Ls (.int z :: st)))) : W p e below s R n0 Q (T.setTop (mkF m pc Ls (st))) := by
  obtain ⟨locs, X, eT, N, hs0, hcl, hsl, hx, hZ, rfl, hml, hown, hnm, hret, hlk⟩ := X
  subst hp
  exact W.of (fun t k => by subst hz; exact XS.sipush X.here hx rfl hd k) w
theorem w_lconst (X : Sn Z n0 bs mx own nm ret p l e R s m args below meth c T h cells slots) {z : Int64} {q : Fin 2} (hd : decode bs pc = .ok (.lconst q, 1)) (hz : Int64.ofNat q = z) (hp : pc + 1 = pc')
    (w : W p e below s R n0 Q (T.setTop (mkF m pc' Ls (.long z :: st)))) : W p e below s R n0 Q (T.setTop (mkF m pc Ls (st))) := by
  obtain ⟨locs, X, eT, N, hs0, hcl, hsl, hx, hZ, rfl, hml, hown, hnm, hret, hlk⟩ := X
  subst hp
  exact W.of (fun t k => by subst hz; exact XS.lconst X.here hx rfl hd k) w
theorem w_aconst_null (X : Sn Z n0 bs mx own nm ret p l e R s m args below meth c T h cells slots) (hd : decode bs pc = .ok (.aconst_null, 1)) (hp : pc + 1 = pc')
    (w : W p e below s R n0 Q (T.setTop (mkF m pc' Ls (.null :: st)))) : W p e below s R n0 Q (T.setTop (mkF m pc Ls (st))) := by
  obtain ⟨locs, X, eT, N, hs0, hcl, hsl, hx, hZ, rfl, hml, hown, hnm, hret, hlk⟩ := X
  subst hp
  exact W.of (fun t k => XS.aconstNull X.here hx rfl hd k) w
theorem w_ldc (X : Sn Z n0 bs mx own nm ret p l e R s m args below meth c T h cells slots) {z : Int32} {q : Nat} (hd : decode bs pc = .ok (.ldc q, 2)) (hw : (Cond.constant own q z).before a0 Z = true) (hp : pc + 2 = pc')
    (w : W p e below s R n0 Q (T.setTop (mkF m pc' Ls (.int z :: st)))) : W p e below s R n0 Q (T.setTop (mkF m pc Ls (st))) := by
  obtain ⟨locs, X, eT, N, hs0, hcl, hsl, hx, hZ, rfl, hml, hown, hnm, hret, hlk⟩ := X
  subst hp
  exact W.of (fun t k => X.ldcInt (own := own) (v := z) hx hown (mvT (args := args) (s := s) hZ hw rfl) (g := mkF m pc Ls st) rfl hd _ k) w
theorem w_ldc2 (X : Sn Z n0 bs mx own nm ret p l e R s m args below meth c T h cells slots) {z : Int64} {q : Nat} (hd : decode bs pc = .ok (.ldc2_w q, 3)) (hw : (Cond.constantLong own q z).before a0 Z = true) (hp : pc + 3 = pc')
    (w : W p e below s R n0 Q (T.setTop (mkF m pc' Ls (.long z :: st)))) : W p e below s R n0 Q (T.setTop (mkF m pc Ls (st))) := by
  obtain ⟨locs, X, eT, N, hs0, hcl, hsl, hx, hZ, rfl, hml, hown, hnm, hret, hlk⟩ := X
  subst hp
  exact W.of (fun t k => X.ldc2Long (own := own) (v := z) hx hown (mvT (args := args) (s := s) hZ hw rfl) (g := mkF m pc Ls st) rfl hd _ k) w
theorem w_iadd (X : Sn Z n0 bs mx own nm ret p l e R s m args below meth c T h cells slots) {x y : Int32} (hd : decode bs pc = .ok (.iadd, 1)) (hp : pc + 1 = pc')
    (w : W p e below s R n0 Q (T.setTop (mkF m pc' Ls (.int (x + y) :: st)))) : W p e below s R n0 Q (T.setTop (mkF m pc Ls (.int y :: .int x :: st))) := by
  obtain ⟨locs, X, eT, N, hs0, hcl, hsl, hx, hZ, rfl, hml, hown, hnm, hret, hlk⟩ := X
  subst hp
  exact W.of (fun t k => XS.iadd X.here hx rfl hd rfl k) w
theorem w_ladd (X : Sn Z n0 bs mx own nm ret p l e R s m args below meth c T h cells slots) {x y : Int64} (hd : decode bs pc = .ok (.ladd, 1)) (hp : pc + 1 = pc')
    (w : W p e below s R n0 Q (T.setTop (mkF m pc' Ls (.long (x + y) :: st)))) : W p e below s R n0 Q (T.setTop (mkF m pc Ls (.long y :: .long x :: st))) := by
  obtain ⟨locs, X, eT, N, hs0, hcl, hsl, hx, hZ, rfl, hml, hown, hnm, hret, hlk⟩ := X
  subst hp
  exact W.of (fun t k => XS.ladd X.here hx rfl hd rfl k) w
theorem w_isub (X : Sn Z n0 bs mx own nm ret p l e R s m args below meth c T h cells slots) {x y : Int32} (hd : decode bs pc = .ok (.isub, 1)) (hp : pc + 1 = pc')
    (w : W p e below s R n0 Q (T.setTop (mkF m pc' Ls (.int (x - y) :: st)))) : W p e below s R n0 Q (T.setTop (mkF m pc Ls (.int y :: .int x :: st))) := by
  obtain ⟨locs, X, eT, N, hs0, hcl, hsl, hx, hZ, rfl, hml, hown, hnm, hret, hlk⟩ := X
  subst hp
  exact W.of (fun t k => XS.isub X.here hx rfl hd rfl k) w
theorem w_lsub (X : Sn Z n0 bs mx own nm ret p l e R s m args below meth c T h cells slots) {x y : Int64} (hd : decode bs pc = .ok (.lsub, 1)) (hp : pc + 1 = pc')
    (w : W p e below s R n0 Q (T.setTop (mkF m pc' Ls (.long (x - y) :: st)))) : W p e below s R n0 Q (T.setTop (mkF m pc Ls (.long y :: .long x :: st))) := by
  obtain ⟨locs, X, eT, N, hs0, hcl, hsl, hx, hZ, rfl, hml, hown, hnm, hret, hlk⟩ := X
  subst hp
  exact W.of (fun t k => XS.lsub X.here hx rfl hd rfl k) w
theorem w_imul (X : Sn Z n0 bs mx own nm ret p l e R s m args below meth c T h cells slots) {x y : Int32} (hd : decode bs pc = .ok (.imul, 1)) (hp : pc + 1 = pc')
    (w : W p e below s R n0 Q (T.setTop (mkF m pc' Ls (.int (x * y) :: st)))) : W p e below s R n0 Q (T.setTop (mkF m pc Ls (.int y :: .int x :: st))) := by
  obtain ⟨locs, X, eT, N, hs0, hcl, hsl, hx, hZ, rfl, hml, hown, hnm, hret, hlk⟩ := X
  subst hp
  exact W.of (fun t k => XS.imul X.here hx rfl hd rfl k) w
theorem w_lmul (X : Sn Z n0 bs mx own nm ret p l e R s m args below meth c T h cells slots) {x y : Int64} (hd : decode bs pc = .ok (.lmul, 1)) (hp : pc + 1 = pc')
    (w : W p e below s R n0 Q (T.setTop (mkF m pc' Ls (.long (x * y) :: st)))) : W p e below s R n0 Q (T.setTop (mkF m pc Ls (.long y :: .long x :: st))) := by
  obtain ⟨locs, X, eT, N, hs0, hcl, hsl, hx, hZ, rfl, hml, hown, hnm, hret, hlk⟩ := X
  subst hp
  exact W.of (fun t k => XS.lmul X.here hx rfl hd rfl k) w
theorem w_iand (X : Sn Z n0 bs mx own nm ret p l e R s m args below meth c T h cells slots) {x y : Int32} (hd : decode bs pc = .ok (.iand, 1)) (hp : pc + 1 = pc')
    (w : W p e below s R n0 Q (T.setTop (mkF m pc' Ls (.int (x &&& y) :: st)))) : W p e below s R n0 Q (T.setTop (mkF m pc Ls (.int y :: .int x :: st))) := by
  obtain ⟨locs, X, eT, N, hs0, hcl, hsl, hx, hZ, rfl, hml, hown, hnm, hret, hlk⟩ := X
  subst hp
  exact W.of (fun t k => XS.iand X.here hx rfl hd rfl k) w
theorem w_land (X : Sn Z n0 bs mx own nm ret p l e R s m args below meth c T h cells slots) {x y : Int64} (hd : decode bs pc = .ok (.land, 1)) (hp : pc + 1 = pc')
    (w : W p e below s R n0 Q (T.setTop (mkF m pc' Ls (.long (x &&& y) :: st)))) : W p e below s R n0 Q (T.setTop (mkF m pc Ls (.long y :: .long x :: st))) := by
  obtain ⟨locs, X, eT, N, hs0, hcl, hsl, hx, hZ, rfl, hml, hown, hnm, hret, hlk⟩ := X
  subst hp
  exact W.of (fun t k => XS.land X.here hx rfl hd rfl k) w
theorem w_ior (X : Sn Z n0 bs mx own nm ret p l e R s m args below meth c T h cells slots) {x y : Int32} (hd : decode bs pc = .ok (.ior, 1)) (hp : pc + 1 = pc')
    (w : W p e below s R n0 Q (T.setTop (mkF m pc' Ls (.int (x ||| y) :: st)))) : W p e below s R n0 Q (T.setTop (mkF m pc Ls (.int y :: .int x :: st))) := by
  obtain ⟨locs, X, eT, N, hs0, hcl, hsl, hx, hZ, rfl, hml, hown, hnm, hret, hlk⟩ := X
  subst hp
  exact W.of (fun t k => XS.ior X.here hx rfl hd rfl k) w
theorem w_lor (X : Sn Z n0 bs mx own nm ret p l e R s m args below meth c T h cells slots) {x y : Int64} (hd : decode bs pc = .ok (.lor, 1)) (hp : pc + 1 = pc')
    (w : W p e below s R n0 Q (T.setTop (mkF m pc' Ls (.long (x ||| y) :: st)))) : W p e below s R n0 Q (T.setTop (mkF m pc Ls (.long y :: .long x :: st))) := by
  obtain ⟨locs, X, eT, N, hs0, hcl, hsl, hx, hZ, rfl, hml, hown, hnm, hret, hlk⟩ := X
  subst hp
  exact W.of (fun t k => XS.lor X.here hx rfl hd rfl k) w
theorem w_ixor (X : Sn Z n0 bs mx own nm ret p l e R s m args below meth c T h cells slots) {x y : Int32} (hd : decode bs pc = .ok (.ixor, 1)) (hp : pc + 1 = pc')
    (w : W p e below s R n0 Q (T.setTop (mkF m pc' Ls (.int (x ^^^ y) :: st)))) : W p e below s R n0 Q (T.setTop (mkF m pc Ls (.int y :: .int x :: st))) := by
  obtain ⟨locs, X, eT, N, hs0, hcl, hsl, hx, hZ, rfl, hml, hown, hnm, hret, hlk⟩ := X
  subst hp
  exact W.of (fun t k => XS.ixor X.here hx rfl hd rfl k) w
theorem w_lxor (X : Sn Z n0 bs mx own nm ret p l e R s m args below meth c T h cells slots) {x y : Int64} (hd : decode bs pc = .ok (.lxor, 1)) (hp : pc + 1 = pc')
    (w : W p e below s R n0 Q (T.setTop (mkF m pc' Ls (.long (x ^^^ y) :: st)))) : W p e below s R n0 Q (T.setTop (mkF m pc Ls (.long y :: .long x :: st))) := by
  obtain ⟨locs, X, eT, N, hs0, hcl, hsl, hx, hZ, rfl, hml, hown, hnm, hret, hlk⟩ := X
  subst hp
  exact W.of (fun t k => XS.lxor X.here hx rfl hd rfl k) w
theorem w_ishl (X : Sn Z n0 bs mx own nm ret p l e R s m args below meth c T h cells slots) {x y : Int32} (hd : decode bs pc = .ok (.ishl, 1)) (hp : pc + 1 = pc')
    (w : W p e below s R n0 Q (T.setTop (mkF m pc' Ls (.int (isl x y) :: st)))) : W p e below s R n0 Q (T.setTop (mkF m pc Ls (.int y :: .int x :: st))) := by
  obtain ⟨locs, X, eT, N, hs0, hcl, hsl, hx, hZ, rfl, hml, hown, hnm, hret, hlk⟩ := X
  subst hp
  exact W.of (fun t k => XS.ishl X.here hx rfl hd rfl k) w
theorem w_ishr (X : Sn Z n0 bs mx own nm ret p l e R s m args below meth c T h cells slots) {x y : Int32} (hd : decode bs pc = .ok (.ishr, 1)) (hp : pc + 1 = pc')
    (w : W p e below s R n0 Q (T.setTop (mkF m pc' Ls (.int (isr x y) :: st)))) : W p e below s R n0 Q (T.setTop (mkF m pc Ls (.int y :: .int x :: st))) := by
  obtain ⟨locs, X, eT, N, hs0, hcl, hsl, hx, hZ, rfl, hml, hown, hnm, hret, hlk⟩ := X
  subst hp
  exact W.of (fun t k => XS.ishr X.here hx rfl hd rfl k) w
theorem w_iushr (X : Sn Z n0 bs mx own nm ret p l e R s m args below meth c T h cells slots) {x y : Int32} (hd : decode bs pc = .ok (.iushr, 1)) (hp : pc + 1 = pc')
    (w : W p e below s R n0 Q (T.setTop (mkF m pc' Ls (.int (ius x y) :: st)))) : W p e below s R n0 Q (T.setTop (mkF m pc Ls (.int y :: .int x :: st))) := by
  obtain ⟨locs, X, eT, N, hs0, hcl, hsl, hx, hZ, rfl, hml, hown, hnm, hret, hlk⟩ := X
  subst hp
  exact W.of (fun t k => XS.iushr X.here hx rfl hd rfl k) w
theorem w_lshl (X : Sn Z n0 bs mx own nm ret p l e R s m args below meth c T h cells slots) {x : Int64} {y : Int32} (hd : decode bs pc = .ok (.lshl, 1)) (hp : pc + 1 = pc')
    (w : W p e below s R n0 Q (T.setTop (mkF m pc' Ls (.long (lsl x y) :: st)))) : W p e below s R n0 Q (T.setTop (mkF m pc Ls (.int y :: .long x :: st))) := by
  obtain ⟨locs, X, eT, N, hs0, hcl, hsl, hx, hZ, rfl, hml, hown, hnm, hret, hlk⟩ := X
  subst hp
  exact W.of (fun t k => XS.lshl X.here hx rfl hd rfl k) w
theorem w_lshr (X : Sn Z n0 bs mx own nm ret p l e R s m args below meth c T h cells slots) {x : Int64} {y : Int32} (hd : decode bs pc = .ok (.lshr, 1)) (hp : pc + 1 = pc')
    (w : W p e below s R n0 Q (T.setTop (mkF m pc' Ls (.long (lsr x y) :: st)))) : W p e below s R n0 Q (T.setTop (mkF m pc Ls (.int y :: .long x :: st))) := by
  obtain ⟨locs, X, eT, N, hs0, hcl, hsl, hx, hZ, rfl, hml, hown, hnm, hret, hlk⟩ := X
  subst hp
  exact W.of (fun t k => XS.lshr X.here hx rfl hd rfl k) w
theorem w_lushr (X : Sn Z n0 bs mx own nm ret p l e R s m args below meth c T h cells slots) {x : Int64} {y : Int32} (hd : decode bs pc = .ok (.lushr, 1)) (hp : pc + 1 = pc')
    (w : W p e below s R n0 Q (T.setTop (mkF m pc' Ls (.long (lus x y) :: st)))) : W p e below s R n0 Q (T.setTop (mkF m pc Ls (.int y :: .long x :: st))) := by
  obtain ⟨locs, X, eT, N, hs0, hcl, hsl, hx, hZ, rfl, hml, hown, hnm, hret, hlk⟩ := X
  subst hp
  exact W.of (fun t k => XS.lushr X.here hx rfl hd rfl k) w
theorem w_idiv (X : Sn Z n0 bs mx own nm ret p l e R s m args below meth c T h cells slots) {x y : Int32} (hd : decode bs pc = .ok (.idiv, 1)) (hy : y ≠ 0) (hp : pc + 1 = pc')
    (w : W p e below s R n0 Q (T.setTop (mkF m pc' Ls (.int (x / y) :: st)))) : W p e below s R n0 Q (T.setTop (mkF m pc Ls (.int y :: .int x :: st))) := by
  obtain ⟨locs, X, eT, N, hs0, hcl, hsl, hx, hZ, rfl, hml, hown, hnm, hret, hlk⟩ := X
  subst hp
  exact W.of (fun t k => XS.idiv X.here hx rfl hd rfl hy k) w
theorem w_irem (X : Sn Z n0 bs mx own nm ret p l e R s m args below meth c T h cells slots) {x y : Int32} (hd : decode bs pc = .ok (.irem, 1)) (hy : y ≠ 0) (hp : pc + 1 = pc')
    (w : W p e below s R n0 Q (T.setTop (mkF m pc' Ls (.int (x % y) :: st)))) : W p e below s R n0 Q (T.setTop (mkF m pc Ls (.int y :: .int x :: st))) := by
  obtain ⟨locs, X, eT, N, hs0, hcl, hsl, hx, hZ, rfl, hml, hown, hnm, hret, hlk⟩ := X
  subst hp
  exact W.of (fun t k => iremM X hx rfl hd rfl hy k) w
theorem w_ineg (X : Sn Z n0 bs mx own nm ret p l e R s m args below meth c T h cells slots) {x : Int32} (hd : decode bs pc = .ok (.ineg, 1)) (hp : pc + 1 = pc')
    (w : W p e below s R n0 Q (T.setTop (mkF m pc' Ls (.int (-x) :: st)))) : W p e below s R n0 Q (T.setTop (mkF m pc Ls (.int x :: st))) := by
  obtain ⟨locs, X, eT, N, hs0, hcl, hsl, hx, hZ, rfl, hml, hown, hnm, hret, hlk⟩ := X
  subst hp
  exact W.of (fun t k => XS.ineg X.here hx rfl hd rfl k) w
theorem w_lneg (X : Sn Z n0 bs mx own nm ret p l e R s m args below meth c T h cells slots) {x : Int64} (hd : decode bs pc = .ok (.lneg, 1)) (hp : pc + 1 = pc')
    (w : W p e below s R n0 Q (T.setTop (mkF m pc' Ls (.long (-x) :: st)))) : W p e below s R n0 Q (T.setTop (mkF m pc Ls (.long x :: st))) := by
  obtain ⟨locs, X, eT, N, hs0, hcl, hsl, hx, hZ, rfl, hml, hown, hnm, hret, hlk⟩ := X
  subst hp
  exact W.of (fun t k => XS.lneg X.here hx rfl hd rfl k) w
theorem w_i2l (X : Sn Z n0 bs mx own nm ret p l e R s m args below meth c T h cells slots) {x : Int32} (hd : decode bs pc = .ok (.i2l, 1)) (hp : pc + 1 = pc')
    (w : W p e below s R n0 Q (T.setTop (mkF m pc' Ls (.long x.toInt64 :: st)))) : W p e below s R n0 Q (T.setTop (mkF m pc Ls (.int x :: st))) := by
  obtain ⟨locs, X, eT, N, hs0, hcl, hsl, hx, hZ, rfl, hml, hown, hnm, hret, hlk⟩ := X
  subst hp
  exact W.of (fun t k => XS.i2l X.here hx rfl hd rfl k) w
theorem w_l2i (X : Sn Z n0 bs mx own nm ret p l e R s m args below meth c T h cells slots) {x : Int64} (hd : decode bs pc = .ok (.l2i, 1)) (hp : pc + 1 = pc')
    (w : W p e below s R n0 Q (T.setTop (mkF m pc' Ls (.int x.toInt32 :: st)))) : W p e below s R n0 Q (T.setTop (mkF m pc Ls (.long x :: st))) := by
  obtain ⟨locs, X, eT, N, hs0, hcl, hsl, hx, hZ, rfl, hml, hown, hnm, hret, hlk⟩ := X
  subst hp
  exact W.of (fun t k => XS.l2i X.here hx rfl hd rfl k) w
theorem w_i2b (X : Sn Z n0 bs mx own nm ret p l e R s m args below meth c T h cells slots) {x : Int32} (hd : decode bs pc = .ok (.i2b, 1)) (hp : pc + 1 = pc')
    (w : W p e below s R n0 Q (T.setTop (mkF m pc' Ls (.int x.toInt8.toInt32 :: st)))) : W p e below s R n0 Q (T.setTop (mkF m pc Ls (.int x :: st))) := by
  obtain ⟨locs, X, eT, N, hs0, hcl, hsl, hx, hZ, rfl, hml, hown, hnm, hret, hlk⟩ := X
  subst hp
  exact W.of (fun t k => XS.i2b X.here hx rfl hd rfl k) w
theorem w_i2s (X : Sn Z n0 bs mx own nm ret p l e R s m args below meth c T h cells slots) {x : Int32} (hd : decode bs pc = .ok (.i2s, 1)) (hp : pc + 1 = pc')
    (w : W p e below s R n0 Q (T.setTop (mkF m pc' Ls (.int x.toInt16.toInt32 :: st)))) : W p e below s R n0 Q (T.setTop (mkF m pc Ls (.int x :: st))) := by
  obtain ⟨locs, X, eT, N, hs0, hcl, hsl, hx, hZ, rfl, hml, hown, hnm, hret, hlk⟩ := X
  subst hp
  exact W.of (fun t k => XS.i2s X.here hx rfl hd rfl k) w
theorem w_dup (X : Sn Z n0 bs mx own nm ret p l e R s m args below meth c T h cells slots) {v : Value} (hd : decode bs pc = .ok (.dup, 1)) (hv : v.category = 1) (hp : pc + 1 = pc')
    (w : W p e below s R n0 Q (T.setTop (mkF m pc' Ls (v :: v :: st)))) : W p e below s R n0 Q (T.setTop (mkF m pc Ls (v :: st))) := by
  obtain ⟨locs, X, eT, N, hs0, hcl, hsl, hx, hZ, rfl, hml, hown, hnm, hret, hlk⟩ := X
  subst hp
  exact W.of (fun t k => XS.dup X.here hx rfl hd rfl hv k) w
theorem w_dup2 (X : Sn Z n0 bs mx own nm ret p l e R s m args below meth c T h cells slots) {v u : Value} (hd : decode bs pc = .ok (.dup2, 1)) (hv : v.category = 1) (hu : u.category = 1) (hp : pc + 1 = pc')
    (w : W p e below s R n0 Q (T.setTop (mkF m pc' Ls (v :: u :: v :: u :: st)))) : W p e below s R n0 Q (T.setTop (mkF m pc Ls (v :: u :: st))) := by
  obtain ⟨locs, X, eT, N, hs0, hcl, hsl, hx, hZ, rfl, hml, hown, hnm, hret, hlk⟩ := X
  subst hp
  exact W.of (fun t k => XT.dup2 X.here hx rfl hd rfl hv hu k) w
theorem w_pop (X : Sn Z n0 bs mx own nm ret p l e R s m args below meth c T h cells slots) {v : Value} (hd : decode bs pc = .ok (.pop, 1)) (hv : v.category = 1) (hp : pc + 1 = pc')
    (w : W p e below s R n0 Q (T.setTop (mkF m pc' Ls (st)))) : W p e below s R n0 Q (T.setTop (mkF m pc Ls (v :: st))) := by
  obtain ⟨locs, X, eT, N, hs0, hcl, hsl, hx, hZ, rfl, hml, hown, hnm, hret, hlk⟩ := X
  subst hp
  exact W.of (fun t k => XS.pop X.here hx rfl hd rfl hv k) w
theorem w_iinc (X : Sn Z n0 bs mx own nm ret p l e R s m args below meth c T h cells slots) {x z : Int32} (hd : decode bs pc = .ok (.iinc k o, 3)) (hl : Ls[k]? = some (.val (.int x))) (hz : x + Int32.ofInt o = z) (hl' : storeLocals Ls k (.int z) = some L') (hp : pc + 3 = pc')
    (w : W p e below s R n0 Q (T.setTop (mkF m pc' L' (st)))) : W p e below s R n0 Q (T.setTop (mkF m pc Ls (st))) := by
  obtain ⟨locs, X, eT, N, hs0, hcl, hsl, hx, hZ, rfl, hml, hown, hnm, hret, hlk⟩ := X
  subst hp hz
  exact W.of (fun t k => XS.iinc X.here hx rfl hd hl hl' k) w
theorem w_goto (X : Sn Z n0 bs mx own nm ret p l e R s m args below meth c T h cells slots) (hd : decode bs pc = .ok (.goto o, 3)) (hp : 0 ≤ (pc : Int) + o ∧ ((pc : Int) + o).toNat = pc')
    (w : W p e below s R n0 Q (T.setTop (mkF m pc' Ls (st)))) : W p e below s R n0 Q (T.setTop (mkF m pc Ls (st))) := by
  obtain ⟨locs, X, eT, N, hs0, hcl, hsl, hx, hZ, rfl, hml, hown, hnm, hret, hlk⟩ := X
  exact W.of (fun t k => XS.goto X.here hx rfl rfl hd hp.1 hp.2 k) w
theorem hI_eq {x y : Int32} : if_icmp.holds .eq x y = decide (x = y) := by by_cases q : x = y <;> simp [q, (teq · |>.1), (feq · |>.1)]
theorem hI_ne {x y : Int32} : if_icmp.holds .ne x y = decide (x ≠ y) := by by_cases q : x = y <;> simp [q, (teq · |>.2), (feq · |>.2)]
theorem hI_lt {x y : Int32} : if_icmp.holds .lt x y = decide (x.toInt < y.toInt) := by
  by_cases q : x < y
  · rw [(tlt q).1]; exact (decide_eq_true (Int32.lt_iff_toInt_lt.mp q)).symm
  · rw [(flt q).1]; exact (decide_eq_false fun z => q (Int32.lt_iff_toInt_lt.mpr z)).symm
theorem hI_ge {x y : Int32} : if_icmp.holds .ge x y = decide (x.toInt ≥ y.toInt) := by
  by_cases q : x < y
  · rw [(tlt q).2.1]; exact (decide_eq_false fun z => by have := Int32.lt_iff_toInt_lt.mp q; omega).symm
  · rw [(flt q).2.1]; exact (decide_eq_true (by rw [Int32.lt_iff_toInt_lt] at q; omega)).symm
theorem hI_gt {x y : Int32} : if_icmp.holds .gt x y = decide (x.toInt > y.toInt) := by
  by_cases q : y < x
  · rw [(tlt q).2.2.1]; exact (decide_eq_true (Int32.lt_iff_toInt_lt.mp q)).symm
  · rw [(flt q).2.2.1]; exact (decide_eq_false fun z => q (Int32.lt_iff_toInt_lt.mpr z)).symm
theorem hI_le {x y : Int32} : if_icmp.holds .le x y = decide (x.toInt ≤ y.toInt) := by
  by_cases q : y < x
  · rw [(tlt q).2.2.2]; exact (decide_eq_false fun z => by have := Int32.lt_iff_toInt_lt.mp q; omega).symm
  · rw [(flt q).2.2.2]; exact (decide_eq_true (by rw [Int32.lt_iff_toInt_lt] at q; omega)).symm
theorem w_icmp_eq (X : Sn Z n0 bs mx own nm ret p l e R s m args below meth c T h cells slots) {x y : Int32} (hd : decode bs pc = .ok (.if_icmp .eq o, 3)) (hp : 0 ≤ (pc : Int) + o ∧ ((pc : Int) + o).toNat = pc1 ∧ pc + 3 = pc2)
    (yes : x = y → W p e below s R n0 Q (T.setTop (mkF m pc1 Ls (st)))) (no : x ≠ y → W p e below s R n0 Q (T.setTop (mkF m pc2 Ls (st)))) : W p e below s R n0 Q (T.setTop (mkF m pc Ls (.int y :: .int x :: st))) := by
  obtain ⟨locs, X, eT, N, hs0, hcl, hsl, hx, hZ, rfl, hml, hown, hnm, hret, hlk⟩ := X
  by_cases z : x = y
  · exact W.of (fun t k => XS.icmpYes X.here hx rfl rfl hd rfl (hI_eq.trans (decide_eq_true z)) hp.1 hp.2.1 k) (yes z)
  · have w := no (z)
    rw [← hp.2.2] at w
    exact W.of (fun t k => XS.icmpNo X.here hx rfl hd rfl (hI_eq.trans (decide_eq_false z)) k) w
theorem w_if_eq (X : Sn Z n0 bs mx own nm ret p l e R s m args below meth c T h cells slots) {x : Int32} (hd : decode bs pc = .ok (.ifCond .eq o, 3)) (hp : 0 ≤ (pc : Int) + o ∧ ((pc : Int) + o).toNat = pc1 ∧ pc + 3 = pc2)
    (yes : x = 0 → W p e below s R n0 Q (T.setTop (mkF m pc1 Ls (st)))) (no : x ≠ 0 → W p e below s R n0 Q (T.setTop (mkF m pc2 Ls (st)))) : W p e below s R n0 Q (T.setTop (mkF m pc Ls (.int x :: st))) := by
  obtain ⟨locs, X, eT, N, hs0, hcl, hsl, hx, hZ, rfl, hml, hown, hnm, hret, hlk⟩ := X
  have hq : ifCond.holds .eq x = decide (x = 0) := (if0 _ _).trans hI_eq
  by_cases z : x = 0
  · exact W.of (fun t k => XS.ifYes X.here hx rfl rfl hd rfl (hq.trans (decide_eq_true z)) hp.1 hp.2.1 k) (yes z)
  · have w := no (z)
    rw [← hp.2.2] at w
    exact W.of (fun t k => XS.ifNo X.here hx rfl hd rfl (hq.trans (decide_eq_false z)) k) w
theorem w_icmp_ne (X : Sn Z n0 bs mx own nm ret p l e R s m args below meth c T h cells slots) {x y : Int32} (hd : decode bs pc = .ok (.if_icmp .ne o, 3)) (hp : 0 ≤ (pc : Int) + o ∧ ((pc : Int) + o).toNat = pc1 ∧ pc + 3 = pc2)
    (yes : x ≠ y → W p e below s R n0 Q (T.setTop (mkF m pc1 Ls (st)))) (no : x = y → W p e below s R n0 Q (T.setTop (mkF m pc2 Ls (st)))) : W p e below s R n0 Q (T.setTop (mkF m pc Ls (.int y :: .int x :: st))) := by
  obtain ⟨locs, X, eT, N, hs0, hcl, hsl, hx, hZ, rfl, hml, hown, hnm, hret, hlk⟩ := X
  by_cases z : x ≠ y
  · exact W.of (fun t k => XS.icmpYes X.here hx rfl rfl hd rfl (hI_ne.trans (decide_eq_true z)) hp.1 hp.2.1 k) (yes z)
  · have w := no (Classical.byContradiction fun u => z u)
    rw [← hp.2.2] at w
    exact W.of (fun t k => XS.icmpNo X.here hx rfl hd rfl (hI_ne.trans (decide_eq_false z)) k) w
theorem w_if_ne (X : Sn Z n0 bs mx own nm ret p l e R s m args below meth c T h cells slots) {x : Int32} (hd : decode bs pc = .ok (.ifCond .ne o, 3)) (hp : 0 ≤ (pc : Int) + o ∧ ((pc : Int) + o).toNat = pc1 ∧ pc + 3 = pc2)
    (yes : x ≠ 0 → W p e below s R n0 Q (T.setTop (mkF m pc1 Ls (st)))) (no : x = 0 → W p e below s R n0 Q (T.setTop (mkF m pc2 Ls (st)))) : W p e below s R n0 Q (T.setTop (mkF m pc Ls (.int x :: st))) := by
  obtain ⟨locs, X, eT, N, hs0, hcl, hsl, hx, hZ, rfl, hml, hown, hnm, hret, hlk⟩ := X
  have hq : ifCond.holds .ne x = decide (x ≠ 0) := (if0 _ _).trans hI_ne
  by_cases z : x ≠ 0
  · exact W.of (fun t k => XS.ifYes X.here hx rfl rfl hd rfl (hq.trans (decide_eq_true z)) hp.1 hp.2.1 k) (yes z)
  · have w := no (Classical.byContradiction fun u => z u)
    rw [← hp.2.2] at w
    exact W.of (fun t k => XS.ifNo X.here hx rfl hd rfl (hq.trans (decide_eq_false z)) k) w
theorem w_icmp_lt (X : Sn Z n0 bs mx own nm ret p l e R s m args below meth c T h cells slots) {x y : Int32} (hd : decode bs pc = .ok (.if_icmp .lt o, 3)) (hp : 0 ≤ (pc : Int) + o ∧ ((pc : Int) + o).toNat = pc1 ∧ pc + 3 = pc2)
    (yes : x.toInt < y.toInt → W p e below s R n0 Q (T.setTop (mkF m pc1 Ls (st)))) (no : x.toInt ≥ y.toInt → W p e below s R n0 Q (T.setTop (mkF m pc2 Ls (st)))) : W p e below s R n0 Q (T.setTop (mkF m pc Ls (.int y :: .int x :: st))) := by
  obtain ⟨locs, X, eT, N, hs0, hcl, hsl, hx, hZ, rfl, hml, hown, hnm, hret, hlk⟩ := X
  by_cases z : x.toInt < y.toInt
  · exact W.of (fun t k => XS.icmpYes X.here hx rfl rfl hd rfl (hI_lt.trans (decide_eq_true z)) hp.1 hp.2.1 k) (yes z)
  · have w := no (Int.not_lt.mp z)
    rw [← hp.2.2] at w
    exact W.of (fun t k => XS.icmpNo X.here hx rfl hd rfl (hI_lt.trans (decide_eq_false z)) k) w
theorem w_if_lt (X : Sn Z n0 bs mx own nm ret p l e R s m args below meth c T h cells slots) {x : Int32} (hd : decode bs pc = .ok (.ifCond .lt o, 3)) (hp : 0 ≤ (pc : Int) + o ∧ ((pc : Int) + o).toNat = pc1 ∧ pc + 3 = pc2)
    (yes : x.toInt < 0 → W p e below s R n0 Q (T.setTop (mkF m pc1 Ls (st)))) (no : x.toInt ≥ 0 → W p e below s R n0 Q (T.setTop (mkF m pc2 Ls (st)))) : W p e below s R n0 Q (T.setTop (mkF m pc Ls (.int x :: st))) := by
  obtain ⟨locs, X, eT, N, hs0, hcl, hsl, hx, hZ, rfl, hml, hown, hnm, hret, hlk⟩ := X
  have hq : ifCond.holds .lt x = decide (x.toInt < 0) := (if0 _ _).trans hI_lt
  by_cases z : x.toInt < 0
  · exact W.of (fun t k => XS.ifYes X.here hx rfl rfl hd rfl (hq.trans (decide_eq_true z)) hp.1 hp.2.1 k) (yes z)
  · have w := no (Int.not_lt.mp z)
    rw [← hp.2.2] at w
    exact W.of (fun t k => XS.ifNo X.here hx rfl hd rfl (hq.trans (decide_eq_false z)) k) w
theorem w_icmp_ge (X : Sn Z n0 bs mx own nm ret p l e R s m args below meth c T h cells slots) {x y : Int32} (hd : decode bs pc = .ok (.if_icmp .ge o, 3)) (hp : 0 ≤ (pc : Int) + o ∧ ((pc : Int) + o).toNat = pc1 ∧ pc + 3 = pc2)
    (yes : x.toInt ≥ y.toInt → W p e below s R n0 Q (T.setTop (mkF m pc1 Ls (st)))) (no : x.toInt < y.toInt → W p e below s R n0 Q (T.setTop (mkF m pc2 Ls (st)))) : W p e below s R n0 Q (T.setTop (mkF m pc Ls (.int y :: .int x :: st))) := by
  obtain ⟨locs, X, eT, N, hs0, hcl, hsl, hx, hZ, rfl, hml, hown, hnm, hret, hlk⟩ := X
  by_cases z : x.toInt ≥ y.toInt
  · exact W.of (fun t k => XS.icmpYes X.here hx rfl rfl hd rfl (hI_ge.trans (decide_eq_true z)) hp.1 hp.2.1 k) (yes z)
  · have w := no (Int.not_le.mp z)
    rw [← hp.2.2] at w
    exact W.of (fun t k => XS.icmpNo X.here hx rfl hd rfl (hI_ge.trans (decide_eq_false z)) k) w
theorem w_if_ge (X : Sn Z n0 bs mx own nm ret p l e R s m args below meth c T h cells slots) {x : Int32} (hd : decode bs pc = .ok (.ifCond .ge o, 3)) (hp : 0 ≤ (pc : Int) + o ∧ ((pc : Int) + o).toNat = pc1 ∧ pc + 3 = pc2)
    (yes : x.toInt ≥ 0 → W p e below s R n0 Q (T.setTop (mkF m pc1 Ls (st)))) (no : x.toInt < 0 → W p e below s R n0 Q (T.setTop (mkF m pc2 Ls (st)))) : W p e below s R n0 Q (T.setTop (mkF m pc Ls (.int x :: st))) := by
  obtain ⟨locs, X, eT, N, hs0, hcl, hsl, hx, hZ, rfl, hml, hown, hnm, hret, hlk⟩ := X
  have hq : ifCond.holds .ge x = decide (x.toInt ≥ 0) := (if0 _ _).trans hI_ge
  by_cases z : x.toInt ≥ 0
  · exact W.of (fun t k => XS.ifYes X.here hx rfl rfl hd rfl (hq.trans (decide_eq_true z)) hp.1 hp.2.1 k) (yes z)
  · have w := no (Int.not_le.mp z)
    rw [← hp.2.2] at w
    exact W.of (fun t k => XS.ifNo X.here hx rfl hd rfl (hq.trans (decide_eq_false z)) k) w
theorem w_icmp_gt (X : Sn Z n0 bs mx own nm ret p l e R s m args below meth c T h cells slots) {x y : Int32} (hd : decode bs pc = .ok (.if_icmp .gt o, 3)) (hp : 0 ≤ (pc : Int) + o ∧ ((pc : Int) + o).toNat = pc1 ∧ pc + 3 = pc2)
    (yes : x.toInt > y.toInt → W p e below s R n0 Q (T.setTop (mkF m pc1 Ls (st)))) (no : x.toInt ≤ y.toInt → W p e below s R n0 Q (T.setTop (mkF m pc2 Ls (st)))) : W p e below s R n0 Q (T.setTop (mkF m pc Ls (.int y :: .int x :: st))) := by
  obtain ⟨locs, X, eT, N, hs0, hcl, hsl, hx, hZ, rfl, hml, hown, hnm, hret, hlk⟩ := X
  by_cases z : x.toInt > y.toInt
  · exact W.of (fun t k => XS.icmpYes X.here hx rfl rfl hd rfl (hI_gt.trans (decide_eq_true z)) hp.1 hp.2.1 k) (yes z)
  · have w := no (Int.not_lt.mp z)
    rw [← hp.2.2] at w
    exact W.of (fun t k => XS.icmpNo X.here hx rfl hd rfl (hI_gt.trans (decide_eq_false z)) k) w
theorem w_if_gt (X : Sn Z n0 bs mx own nm ret p l e R s m args below meth c T h cells slots) {x : Int32} (hd : decode bs pc = .ok (.ifCond .gt o, 3)) (hp : 0 ≤ (pc : Int) + o ∧ ((pc : Int) + o).toNat = pc1 ∧ pc + 3 = pc2)
    (yes : x.toInt > 0 → W p e below s R n0 Q (T.setTop (mkF m pc1 Ls (st)))) (no : x.toInt ≤ 0 → W p e below s R n0 Q (T.setTop (mkF m pc2 Ls (st)))) : W p e below s R n0 Q (T.setTop (mkF m pc Ls (.int x :: st))) := by
  obtain ⟨locs, X, eT, N, hs0, hcl, hsl, hx, hZ, rfl, hml, hown, hnm, hret, hlk⟩ := X
  have hq : ifCond.holds .gt x = decide (x.toInt > 0) := (if0 _ _).trans hI_gt
  by_cases z : x.toInt > 0
  · exact W.of (fun t k => XS.ifYes X.here hx rfl rfl hd rfl (hq.trans (decide_eq_true z)) hp.1 hp.2.1 k) (yes z)
  · have w := no (Int.not_lt.mp z)
    rw [← hp.2.2] at w
    exact W.of (fun t k => XS.ifNo X.here hx rfl hd rfl (hq.trans (decide_eq_false z)) k) w
theorem w_icmp_le (X : Sn Z n0 bs mx own nm ret p l e R s m args below meth c T h cells slots) {x y : Int32} (hd : decode bs pc = .ok (.if_icmp .le o, 3)) (hp : 0 ≤ (pc : Int) + o ∧ ((pc : Int) + o).toNat = pc1 ∧ pc + 3 = pc2)
    (yes : x.toInt ≤ y.toInt → W p e below s R n0 Q (T.setTop (mkF m pc1 Ls (st)))) (no : x.toInt > y.toInt → W p e below s R n0 Q (T.setTop (mkF m pc2 Ls (st)))) : W p e below s R n0 Q (T.setTop (mkF m pc Ls (.int y :: .int x :: st))) := by
  obtain ⟨locs, X, eT, N, hs0, hcl, hsl, hx, hZ, rfl, hml, hown, hnm, hret, hlk⟩ := X
  by_cases z : x.toInt ≤ y.toInt
  · exact W.of (fun t k => XS.icmpYes X.here hx rfl rfl hd rfl (hI_le.trans (decide_eq_true z)) hp.1 hp.2.1 k) (yes z)
  · have w := no (Int.not_le.mp z)
    rw [← hp.2.2] at w
    exact W.of (fun t k => XS.icmpNo X.here hx rfl hd rfl (hI_le.trans (decide_eq_false z)) k) w
theorem w_if_le (X : Sn Z n0 bs mx own nm ret p l e R s m args below meth c T h cells slots) {x : Int32} (hd : decode bs pc = .ok (.ifCond .le o, 3)) (hp : 0 ≤ (pc : Int) + o ∧ ((pc : Int) + o).toNat = pc1 ∧ pc + 3 = pc2)
    (yes : x.toInt ≤ 0 → W p e below s R n0 Q (T.setTop (mkF m pc1 Ls (st)))) (no : x.toInt > 0 → W p e below s R n0 Q (T.setTop (mkF m pc2 Ls (st)))) : W p e below s R n0 Q (T.setTop (mkF m pc Ls (.int x :: st))) := by
  obtain ⟨locs, X, eT, N, hs0, hcl, hsl, hx, hZ, rfl, hml, hown, hnm, hret, hlk⟩ := X
  have hq : ifCond.holds .le x = decide (x.toInt ≤ 0) := (if0 _ _).trans hI_le
  by_cases z : x.toInt ≤ 0
  · exact W.of (fun t k => XS.ifYes X.here hx rfl rfl hd rfl (hq.trans (decide_eq_true z)) hp.1 hp.2.1 k) (yes z)
  · have w := no (Int.not_le.mp z)
    rw [← hp.2.2] at w
    exact W.of (fun t k => XS.ifNo X.here hx rfl hd rfl (hq.trans (decide_eq_false z)) k) w
theorem hL {x y : Int64} : (if x > y then (1 : Int32) else if x = y then 0 else -1).toInt = if x.toInt > y.toInt then 1 else if x = y then 0 else -1 := by
  by_cases q : x > y
  · have q' : x.toInt > y.toInt := Int64.lt_iff_toInt_lt.mp q
    rw [if_pos q, if_pos q']; rfl
  · have q' : ¬ x.toInt > y.toInt := fun z => q (Int64.lt_iff_toInt_lt.mpr z)
    rw [if_neg q, if_neg q']
    by_cases r : x = y
    · rw [if_pos r, if_pos r]; rfl
    · rw [if_neg r, if_neg r]; rfl
theorem hL2 {x y : Int64} : ((if x > y then (1 : Int32) else if x = y then 0 else -1).toInt = 1 ∧ x.toInt > y.toInt) ∨ ((if x > y then (1 : Int32) else if x = y then 0 else -1) = 0 ∧ x = y ∧ x.toInt = y.toInt) ∨ ((if x > y then (1 : Int32) else if x = y then 0 else -1).toInt = -1 ∧ x.toInt < y.toInt) := by
  by_cases q : x.toInt > y.toInt
  · left; rw [hL, if_pos q]; exact ⟨rfl, q⟩
  · by_cases r : x = y
    · right; left; subst r; exact ⟨by rw [if_neg (fun z => q (Int64.lt_iff_toInt_lt.mp z)), if_pos rfl], rfl, rfl⟩
    · right; right; rw [hL, if_neg q, if_neg r]; refine ⟨rfl, ?_⟩
      have : x.toInt ≠ y.toInt := fun z => r (Int64.toInt_inj.mp z)
      omega
theorem w_lcif_eq (X : Sn Z n0 bs mx own nm ret p l e R s m args below meth c T h cells slots) {x y : Int64} (hd : decode bs pc = .ok (.lcmp, 1)) (hd2 : decode bs pc' = .ok (.ifCond .eq o, 3)) (hp : pc + 1 = pc' ∧ 0 ≤ (pc' : Int) + o ∧ ((pc' : Int) + o).toNat = pc1 ∧ pc' + 3 = pc2)
    (yes : x = y → W p e below s R n0 Q (T.setTop (mkF m pc1 Ls (st)))) (no : x ≠ y → W p e below s R n0 Q (T.setTop (mkF m pc2 Ls (st)))) : W p e below s R n0 Q (T.setTop (mkF m pc Ls (.long y :: .long x :: st))) := by
  have X' := X
  obtain ⟨locs, X, eT, N, hs0, hcl, hsl, hx, hZ, rfl, hml, hown, hnm, hret, hlk⟩ := X
  refine W.of (fun t k => XS.lcmp X.here hx rfl hd rfl k) ?_
  have e1 : pc + 1 = pc' := hp.1
  show W p e below s R n0 Q (T.setTop (mkF m (pc + 1) Ls (.int (if x > y then 1 else if x = y then 0 else -1) :: st)))
  rw [e1]
  refine w_if_eq X' hd2 hp.2 (fun z => yes ?_) (fun z => no ?_)
  all_goals rcases hL2 (x := x) (y := y) with ⟨q1, q2⟩ | ⟨q1, rfl, -⟩ | ⟨q1, q2⟩
  all_goals first | rfl | exact Int.le_refl _ | (exfalso; rw [z] at q1; revert q1; decide) | (exfalso; exact z q1) | (exfalso; rw [q1] at z; revert z; decide) | (intro u; subst u; exact absurd q2 (Int.lt_irrefl _)) | omega
theorem w_lcif_ne (X : Sn Z n0 bs mx own nm ret p l e R s m args below meth c T h cells slots) {x y : Int64} (hd : decode bs pc = .ok (.lcmp, 1)) (hd2 : decode bs pc' = .ok (.ifCond .ne o, 3)) (hp : pc + 1 = pc' ∧ 0 ≤ (pc' : Int) + o ∧ ((pc' : Int) + o).toNat = pc1 ∧ pc' + 3 = pc2)
    (yes : x ≠ y → W p e below s R n0 Q (T.setTop (mkF m pc1 Ls (st)))) (no : x = y → W p e below s R n0 Q (T.setTop (mkF m pc2 Ls (st)))) : W p e below s R n0 Q (T.setTop (mkF m pc Ls (.long y :: .long x :: st))) := by
  have X' := X
  obtain ⟨locs, X, eT, N, hs0, hcl, hsl, hx, hZ, rfl, hml, hown, hnm, hret, hlk⟩ := X
  refine W.of (fun t k => XS.lcmp X.here hx rfl hd rfl k) ?_
  have e1 : pc + 1 = pc' := hp.1
  show W p e below s R n0 Q (T.setTop (mkF m (pc + 1) Ls (.int (if x > y then 1 else if x = y then 0 else -1) :: st)))
  rw [e1]
  refine w_if_ne X' hd2 hp.2 (fun z => yes ?_) (fun z => no ?_)
  all_goals rcases hL2 (x := x) (y := y) with ⟨q1, q2⟩ | ⟨q1, rfl, -⟩ | ⟨q1, q2⟩
  all_goals first | rfl | exact Int.le_refl _ | (exfalso; rw [z] at q1; revert q1; decide) | (exfalso; exact z q1) | (exfalso; rw [q1] at z; revert z; decide) | (intro u; subst u; exact absurd q2 (Int.lt_irrefl _)) | omega
theorem w_lcif_lt (X : Sn Z n0 bs mx own nm ret p l e R s m args below meth c T h cells slots) {x y : Int64} (hd : decode bs pc = .ok (.lcmp, 1)) (hd2 : decode bs pc' = .ok (.ifCond .lt o, 3)) (hp : pc + 1 = pc' ∧ 0 ≤ (pc' : Int) + o ∧ ((pc' : Int) + o).toNat = pc1 ∧ pc' + 3 = pc2)
    (yes : x.toInt < y.toInt → W p e below s R n0 Q (T.setTop (mkF m pc1 Ls (st)))) (no : x.toInt ≥ y.toInt → W p e below s R n0 Q (T.setTop (mkF m pc2 Ls (st)))) : W p e below s R n0 Q (T.setTop (mkF m pc Ls (.long y :: .long x :: st))) := by
  have X' := X
  obtain ⟨locs, X, eT, N, hs0, hcl, hsl, hx, hZ, rfl, hml, hown, hnm, hret, hlk⟩ := X
  refine W.of (fun t k => XS.lcmp X.here hx rfl hd rfl k) ?_
  have e1 : pc + 1 = pc' := hp.1
  show W p e below s R n0 Q (T.setTop (mkF m (pc + 1) Ls (.int (if x > y then 1 else if x = y then 0 else -1) :: st)))
  rw [e1]
  refine w_if_lt X' hd2 hp.2 (fun z => yes ?_) (fun z => no ?_)
  all_goals rcases hL2 (x := x) (y := y) with ⟨q1, q2⟩ | ⟨q1, rfl, -⟩ | ⟨q1, q2⟩
  all_goals first | rfl | exact Int.le_refl _ | (exfalso; rw [z] at q1; revert q1; decide) | (exfalso; exact z q1) | (exfalso; rw [q1] at z; revert z; decide) | (intro u; subst u; exact absurd q2 (Int.lt_irrefl _)) | omega
theorem w_lcif_ge (X : Sn Z n0 bs mx own nm ret p l e R s m args below meth c T h cells slots) {x y : Int64} (hd : decode bs pc = .ok (.lcmp, 1)) (hd2 : decode bs pc' = .ok (.ifCond .ge o, 3)) (hp : pc + 1 = pc' ∧ 0 ≤ (pc' : Int) + o ∧ ((pc' : Int) + o).toNat = pc1 ∧ pc' + 3 = pc2)
    (yes : x.toInt ≥ y.toInt → W p e below s R n0 Q (T.setTop (mkF m pc1 Ls (st)))) (no : x.toInt < y.toInt → W p e below s R n0 Q (T.setTop (mkF m pc2 Ls (st)))) : W p e below s R n0 Q (T.setTop (mkF m pc Ls (.long y :: .long x :: st))) := by
  have X' := X
  obtain ⟨locs, X, eT, N, hs0, hcl, hsl, hx, hZ, rfl, hml, hown, hnm, hret, hlk⟩ := X
  refine W.of (fun t k => XS.lcmp X.here hx rfl hd rfl k) ?_
  have e1 : pc + 1 = pc' := hp.1
  show W p e below s R n0 Q (T.setTop (mkF m (pc + 1) Ls (.int (if x > y then 1 else if x = y then 0 else -1) :: st)))
  rw [e1]
  refine w_if_ge X' hd2 hp.2 (fun z => yes ?_) (fun z => no ?_)
  all_goals rcases hL2 (x := x) (y := y) with ⟨q1, q2⟩ | ⟨q1, rfl, -⟩ | ⟨q1, q2⟩
  all_goals first | rfl | exact Int.le_refl _ | (exfalso; rw [z] at q1; revert q1; decide) | (exfalso; exact z q1) | (exfalso; rw [q1] at z; revert z; decide) | (intro u; subst u; exact absurd q2 (Int.lt_irrefl _)) | omega
theorem w_lcif_gt (X : Sn Z n0 bs mx own nm ret p l e R s m args below meth c T h cells slots) {x y : Int64} (hd : decode bs pc = .ok (.lcmp, 1)) (hd2 : decode bs pc' = .ok (.ifCond .gt o, 3)) (hp : pc + 1 = pc' ∧ 0 ≤ (pc' : Int) + o ∧ ((pc' : Int) + o).toNat = pc1 ∧ pc' + 3 = pc2)
    (yes : x.toInt > y.toInt → W p e below s R n0 Q (T.setTop (mkF m pc1 Ls (st)))) (no : x.toInt ≤ y.toInt → W p e below s R n0 Q (T.setTop (mkF m pc2 Ls (st)))) : W p e below s R n0 Q (T.setTop (mkF m pc Ls (.long y :: .long x :: st))) := by
  have X' := X
  obtain ⟨locs, X, eT, N, hs0, hcl, hsl, hx, hZ, rfl, hml, hown, hnm, hret, hlk⟩ := X
  refine W.of (fun t k => XS.lcmp X.here hx rfl hd rfl k) ?_
  have e1 : pc + 1 = pc' := hp.1
  show W p e below s R n0 Q (T.setTop (mkF m (pc + 1) Ls (.int (if x > y then 1 else if x = y then 0 else -1) :: st)))
  rw [e1]
  refine w_if_gt X' hd2 hp.2 (fun z => yes ?_) (fun z => no ?_)
  all_goals rcases hL2 (x := x) (y := y) with ⟨q1, q2⟩ | ⟨q1, rfl, -⟩ | ⟨q1, q2⟩
  all_goals first | rfl | exact Int.le_refl _ | (exfalso; rw [z] at q1; revert q1; decide) | (exfalso; exact z q1) | (exfalso; rw [q1] at z; revert z; decide) | (intro u; subst u; exact absurd q2 (Int.lt_irrefl _)) | omega
theorem w_lcif_le (X : Sn Z n0 bs mx own nm ret p l e R s m args below meth c T h cells slots) {x y : Int64} (hd : decode bs pc = .ok (.lcmp, 1)) (hd2 : decode bs pc' = .ok (.ifCond .le o, 3)) (hp : pc + 1 = pc' ∧ 0 ≤ (pc' : Int) + o ∧ ((pc' : Int) + o).toNat = pc1 ∧ pc' + 3 = pc2)
    (yes : x.toInt ≤ y.toInt → W p e below s R n0 Q (T.setTop (mkF m pc1 Ls (st)))) (no : x.toInt > y.toInt → W p e below s R n0 Q (T.setTop (mkF m pc2 Ls (st)))) : W p e below s R n0 Q (T.setTop (mkF m pc Ls (.long y :: .long x :: st))) := by
  have X' := X
  obtain ⟨locs, X, eT, N, hs0, hcl, hsl, hx, hZ, rfl, hml, hown, hnm, hret, hlk⟩ := X
  refine W.of (fun t k => XS.lcmp X.here hx rfl hd rfl k) ?_
  have e1 : pc + 1 = pc' := hp.1
  show W p e below s R n0 Q (T.setTop (mkF m (pc + 1) Ls (.int (if x > y then 1 else if x = y then 0 else -1) :: st)))
  rw [e1]
  refine w_if_le X' hd2 hp.2 (fun z => yes ?_) (fun z => no ?_)
  all_goals rcases hL2 (x := x) (y := y) with ⟨q1, q2⟩ | ⟨q1, rfl, -⟩ | ⟨q1, q2⟩
  all_goals first | rfl | exact Int.le_refl _ | (exfalso; rw [z] at q1; revert q1; decide) | (exfalso; exact z q1) | (exfalso; rw [q1] at z; revert z; decide) | (intro u; subst u; exact absurd q2 (Int.lt_irrefl _)) | omega
theorem w_ifnull_ref (X : Sn Z n0 bs mx own nm ret p l e R s m args below meth c T h cells slots) {b : Addr} (hd : decode bs pc = .ok (.ifnull o, 3)) (hp : pc + 3 = pc')
    (w : W p e below s R n0 Q (T.setTop (mkF m pc' Ls (st)))) : W p e below s R n0 Q (T.setTop (mkF m pc Ls (.ref b :: st))) := by
  obtain ⟨locs, X, eT, N, hs0, hcl, hsl, hx, hZ, rfl, hml, hown, hnm, hret, hlk⟩ := X
  subst hp
  exact W.of (fun t k => XS.ifnullNo X.here hx rfl hd rfl k) w
theorem w_ifnull_null (X : Sn Z n0 bs mx own nm ret p l e R s m args below meth c T h cells slots) (hd : decode bs pc = .ok (.ifnull o, 3)) (hp : 0 ≤ (pc : Int) + o ∧ ((pc : Int) + o).toNat = pc')
    (w : W p e below s R n0 Q (T.setTop (mkF m pc' Ls (st)))) : W p e below s R n0 Q (T.setTop (mkF m pc Ls (.null :: st))) := by
  obtain ⟨locs, X, eT, N, hs0, hcl, hsl, hx, hZ, rfl, hml, hown, hnm, hret, hlk⟩ := X
  exact W.of (fun t k => XS.ifnullYes X.here hx rfl rfl hd rfl hp.1 hp.2 k) w
theorem idxOf {j : Int32} {i n : Nat} {cl : Cell} (q : j.toInt = i) (hi : i < n) (hn : cl.slots.size = n) : ¬ (j < 0 ∨ cl.slots.size ≤ j.toNatClampNeg) ∧ j.toNatClampNeg = i := by
  have e : j.toNatClampNeg = i := by simp only [Int32.toNatClampNeg]; omega
  refine ⟨?_, e⟩
  rw [e, hn, Int32.lt_iff_toInt_lt]
  have : (0 : Int32).toInt = 0 := rfl
  omega
theorem w_iaload (X : Sn Z n0 bs mx own nm ret p l e R s m args below meth c T h cells slots) {a : Addr} {n i : Nat} {f : Nat → Value} {j : Int32} {v : Value} (F : AF Z h a .int n f) (hd : decode bs pc = .ok (.iaload, 1)) (hj : j.toInt = i) (hi : i < n) (hv : f i = v) (hp : pc + 1 = pc')
    (w : W p e below s R n0 Q (T.setTop (mkF m pc' Ls (v :: st)))) : W p e below s R n0 Q (T.setTop (mkF m pc Ls (.int j :: .ref a :: st))) := by
  obtain ⟨locs, X, eT, N, hs0, hcl, hsl, hx, hZ, rfl, hml, hown, hnm, hret, hlk⟩ := X
  obtain ⟨cl, A, r1, r2, r3⟩ := F
  obtain ⟨q1, q2⟩ := idxOf (cl := cl) hj hi r1
  subst hp hv eT
  exact W.of (fun t k => X.iaload hx (j := j) (v := f i) A.1 (State.isArrayOf_alike hZ.alike A.2.1) A.2.2 q1 (by rw [q2]; exact r3 i hi) (g := mkF m pc Ls (.int j :: .ref a :: st)) rfl rfl hd _ k) w
theorem w_laload (X : Sn Z n0 bs mx own nm ret p l e R s m args below meth c T h cells slots) {a : Addr} {n i : Nat} {f : Nat → Value} {j : Int32} {v : Value} (F : AF Z h a .long n f) (hd : decode bs pc = .ok (.laload, 1)) (hj : j.toInt = i) (hi : i < n) (hv : f i = v) (hp : pc + 1 = pc')
    (w : W p e below s R n0 Q (T.setTop (mkF m pc' Ls (v :: st)))) : W p e below s R n0 Q (T.setTop (mkF m pc Ls (.int j :: .ref a :: st))) := by
  obtain ⟨locs, X, eT, N, hs0, hcl, hsl, hx, hZ, rfl, hml, hown, hnm, hret, hlk⟩ := X
  obtain ⟨cl, A, r1, r2, r3⟩ := F
  obtain ⟨q1, q2⟩ := idxOf (cl := cl) hj hi r1
  subst hp hv eT
  exact W.of (fun t k => X.laload hx (j := j) (v := f i) A.1 (State.isArrayOf_alike hZ.alike A.2.1) A.2.2 q1 (by rw [q2]; exact r3 i hi) (g := mkF m pc Ls (.int j :: .ref a :: st)) rfl rfl hd _ k) w
theorem w_baloadB (X : Sn Z n0 bs mx own nm ret p l e R s m args below meth c T h cells slots) {a : Addr} {n i : Nat} {f : Nat → Value} {j : Int32} {v : Value} (F : AF Z h a .byte n f) (hd : decode bs pc = .ok (.baload, 1)) (hj : j.toInt = i) (hi : i < n) (hv : f i = v) (hp : pc + 1 = pc')
    (w : W p e below s R n0 Q (T.setTop (mkF m pc' Ls (v :: st)))) : W p e below s R n0 Q (T.setTop (mkF m pc Ls (.int j :: .ref a :: st))) := by
  obtain ⟨locs, X, eT, N, hs0, hcl, hsl, hx, hZ, rfl, hml, hown, hnm, hret, hlk⟩ := X
  obtain ⟨cl, A, r1, r2, r3⟩ := F
  obtain ⟨q1, q2⟩ := idxOf (cl := cl) hj hi r1
  subst hp hv eT
  exact W.of (fun t k => X.baloadBytes hx (j := j) (v := f i) A.1 (State.isArrayOf_alike hZ.alike A.2.1) A.2.2 q1 (by rw [q2]; exact r3 i hi) (g := mkF m pc Ls (.int j :: .ref a :: st)) rfl rfl hd _ k) w
theorem w_baloadZ (X : Sn Z n0 bs mx own nm ret p l e R s m args below meth c T h cells slots) {a : Addr} {n i : Nat} {f : Nat → Value} {j : Int32} {v : Value} (F : AF Z h a .boolean n f) (hd : decode bs pc = .ok (.baload, 1)) (hj : j.toInt = i) (hi : i < n) (hv : f i = v) (hp : pc + 1 = pc')
    (w : W p e below s R n0 Q (T.setTop (mkF m pc' Ls (v :: st)))) : W p e below s R n0 Q (T.setTop (mkF m pc Ls (.int j :: .ref a :: st))) := by
  obtain ⟨locs, X, eT, N, hs0, hcl, hsl, hx, hZ, rfl, hml, hown, hnm, hret, hlk⟩ := X
  obtain ⟨cl, A, r1, r2, r3⟩ := F
  obtain ⟨q1, q2⟩ := idxOf (cl := cl) hj hi r1
  subst hp hv eT
  exact W.of (fun t k => X.baloadBooleans hx (j := j) (v := f i) A.1 (State.isArrayOf_alike hZ.alike A.2.1) A.2.2 q1 (by rw [q2]; exact r3 i hi) (g := mkF m pc Ls (.int j :: .ref a :: st)) rfl rfl hd _ k) w
theorem w_iastore (X : Sn Z n0 bs mx own nm ret p l e R s m args below meth c T h cells slots) {a : Addr} {n i : Nat} {f : Nat → Value} {j : Int32} {x : Int32} (F : AF Z h a .int n f) (hd : decode bs pc = .ok (.iastore, 1)) (hj : j.toInt = i) (hi : i < n) (hp : pc + 1 = pc') (ha : n0 ≤ a)
    (w : ∀ T' h', Sn Z n0 bs mx own nm ret p l e R s m args below meth c T' h' cells slots → Wr h h' a i (.int x) → W p e below s R n0 Q (T'.setTop (mkF m pc' Ls (st)))) : W p e below s R n0 Q (T.setTop (mkF m pc Ls (.int x :: .int j :: .ref a :: st))) := by
  obtain ⟨locs, X, eT, N, hs0, hcl, hsl, hx, hZ, rfl, hml, hown, hnm, hret, hlk⟩ := X
  obtain ⟨cl, A, r1, r2, r3⟩ := F
  obtain ⟨q1, q2⟩ := idxOf (cl := cl) hj hi r1
  subst hp
  obtain ⟨T', h', X', e', W', st'⟩ := stI X hx hZ eT A (j := j) q1 (g := mkF m pc Ls (.int x :: .int j :: .ref a :: st)) rfl rfl hd
  rw [q2] at X' W'
  exact W.of st' (w T' h' ⟨_, X', e', Fr.snoc X' N ha, by rw [W'.size]; exact hs0, hcl, hsl, hx, hZ, rfl, hml, hown, hnm, hret, hlk⟩ W')
theorem w_lastore (X : Sn Z n0 bs mx own nm ret p l e R s m args below meth c T h cells slots) {a : Addr} {n i : Nat} {f : Nat → Value} {j : Int32} {x : Int64} (F : AF Z h a .long n f) (hd : decode bs pc = .ok (.lastore, 1)) (hj : j.toInt = i) (hi : i < n) (hp : pc + 1 = pc') (ha : n0 ≤ a)
    (w : ∀ T' h', Sn Z n0 bs mx own nm ret p l e R s m args below meth c T' h' cells slots → Wr h h' a i (.long x) → W p e below s R n0 Q (T'.setTop (mkF m pc' Ls (st)))) : W p e below s R n0 Q (T.setTop (mkF m pc Ls (.long x :: .int j :: .ref a :: st))) := by
  obtain ⟨locs, X, eT, N, hs0, hcl, hsl, hx, hZ, rfl, hml, hown, hnm, hret, hlk⟩ := X
  obtain ⟨cl, A, r1, r2, r3⟩ := F
  obtain ⟨q1, q2⟩ := idxOf (cl := cl) hj hi r1
  subst hp
  obtain ⟨T', h', X', e', W', st'⟩ := stJ X hx hZ eT A (j := j) q1 (g := mkF m pc Ls (.long x :: .int j :: .ref a :: st)) rfl rfl hd
  rw [q2] at X' W'
  exact W.of st' (w T' h' ⟨_, X', e', Fr.snoc X' N ha, by rw [W'.size]; exact hs0, hcl, hsl, hx, hZ, rfl, hml, hown, hnm, hret, hlk⟩ W')
theorem w_bastoreB (X : Sn Z n0 bs mx own nm ret p l e R s m args below meth c T h cells slots) {a : Addr} {n i : Nat} {f : Nat → Value} {j : Int32} {x : Int32} (F : AF Z h a .byte n f) (hd : decode bs pc = .ok (.bastore, 1)) (hj : j.toInt = i) (hi : i < n) (hp : pc + 1 = pc') (ha : n0 ≤ a)
    (w : ∀ T' h', Sn Z n0 bs mx own nm ret p l e R s m args below meth c T' h' cells slots → Wr h h' a i (.int (x.toInt8.toInt32)) → W p e below s R n0 Q (T'.setTop (mkF m pc' Ls (st)))) : W p e below s R n0 Q (T.setTop (mkF m pc Ls (.int x :: .int j :: .ref a :: st))) := by
  obtain ⟨locs, X, eT, N, hs0, hcl, hsl, hx, hZ, rfl, hml, hown, hnm, hret, hlk⟩ := X
  obtain ⟨cl, A, r1, r2, r3⟩ := F
  obtain ⟨q1, q2⟩ := idxOf (cl := cl) hj hi r1
  subst hp
  obtain ⟨T', h', X', e', W', st'⟩ := stB X hx hZ eT A (j := j) q1 (g := mkF m pc Ls (.int x :: .int j :: .ref a :: st)) rfl rfl hd
  rw [q2] at X' W'
  exact W.of st' (w T' h' ⟨_, X', e', Fr.snoc X' N ha, by rw [W'.size]; exact hs0, hcl, hsl, hx, hZ, rfl, hml, hown, hnm, hret, hlk⟩ W')
theorem w_bastoreZ (X : Sn Z n0 bs mx own nm ret p l e R s m args below meth c T h cells slots) {a : Addr} {n i : Nat} {f : Nat → Value} {j : Int32} {x : Int32} (F : AF Z h a .boolean n f) (hd : decode bs pc = .ok (.bastore, 1)) (hj : j.toInt = i) (hi : i < n) (hp : pc + 1 = pc') (ha : n0 ≤ a)
    (w : ∀ T' h', Sn Z n0 bs mx own nm ret p l e R s m args below meth c T' h' cells slots → Wr h h' a i (.int (x &&& 1)) → W p e below s R n0 Q (T'.setTop (mkF m pc' Ls (st)))) : W p e below s R n0 Q (T.setTop (mkF m pc Ls (.int x :: .int j :: .ref a :: st))) := by
  obtain ⟨locs, X, eT, N, hs0, hcl, hsl, hx, hZ, rfl, hml, hown, hnm, hret, hlk⟩ := X
  obtain ⟨cl, A, r1, r2, r3⟩ := F
  obtain ⟨q1, q2⟩ := idxOf (cl := cl) hj hi r1
  subst hp
  obtain ⟨T', h', X', e', W', st'⟩ := stZ X hx hZ eT A (j := j) q1 (g := mkF m pc Ls (.int x :: .int j :: .ref a :: st)) rfl rfl hd
  rw [q2] at X' W'
  exact W.of st' (w T' h' ⟨_, X', e', Fr.snoc X' N ha, by rw [W'.size]; exact hs0, hcl, hsl, hx, hZ, rfl, hml, hown, hnm, hret, hlk⟩ W')
theorem w_arraylength (X : Sn Z n0 bs mx own nm ret p l e R s m args below meth c T h cells slots) {a : Addr} {ty : FieldType} {n : Nat} {f : Nat → Value} {z : Int32} (F : AF Z h a ty n f) (hd : decode bs pc = .ok (.arraylength, 1)) (hz : z.toInt = n) (hp : pc + 1 = pc')
    (w : W p e below s R n0 Q (T.setTop (mkF m pc' Ls (.int z :: st)))) : W p e below s R n0 Q (T.setTop (mkF m pc Ls (.ref a :: st))) := by
  obtain ⟨locs, X, eT, N, hs0, hcl, hsl, hx, hZ, rfl, hml, hown, hnm, hret, hlk⟩ := X
  obtain ⟨cl, A, r1, r2, r3⟩ := F
  subst hp eT
  have e1 : cl.slots.size.toInt32 = z := Int32.toInt_inj.mp (by rw [len_toInt (by rw [r1]; exact r2), hz, r1])
  rw [← e1] at w
  exact W.of (fun t k => X.arraylength hx A.1 (State.isArrayOf_alike hZ.alike A.2.1) (g := mkF m pc Ls (.ref a :: st)) rfl rfl hd _ k) w
theorem w_newarray (X : Sn Z n0 bs mx own nm ret p l e R s m args below meth c T h cells slots) {aty : ArrayType} {z : Int32} {n cap : Nat} (hd : decode bs pc = .ok (.newarray aty, 2)) (w0 : (Cond.arrayClass (newarray.typeOf aty)).before a0 Z = true) (hz : z.toInt = n) (hcap : n ≤ cap) (hr : cap * 8 ≤ 536870912 ∧ cells + 1 ≤ R.cells ∧ slots + cap ≤ R.slots ∧ pc + 2 = pc')
    (w : ∀ T' h' b, Sn Z n0 bs mx own nm ret p l e R s m args below meth c T' h' (cells + 1) (slots + cap) → Ext h h' → b = h.size → n0 ≤ b → AF Z h' b (newarray.typeOf aty) n (fun _ => defaultValue (newarray.typeOf aty)) → W p e below s R n0 Q (T'.setTop (mkF m pc' Ls (.ref b :: st)))) : W p e below s R n0 Q (T.setTop (mkF m pc Ls (.int z :: st))) := by
  obtain ⟨locs, X, eT, N, hs0, hcl, hsl, hx, hZ, rfl, hml, hown, hnm, hret, hlk⟩ := X
  have hn : ¬ z < 0 := by rw [Int32.lt_iff_toInt_lt]; have : (0 : Int32).toInt = 0 := rfl; omega
  obtain ⟨T', h', cA, X', e', E', A', st'⟩ := newP X hx hZ w0 eT (g := mkF m pc Ls (.int z :: st)) rfl hd rfl hn (cap := cap) (by simp only [Int32.toNatClampNeg]; omega) hr.1 hr.2.1 hr.2.2.1
  obtain ⟨-, hr2, hr3, hp⟩ := hr
  subst hp
  exact W.of st' (w T' h' _ ⟨_, X', e', N, Nat.le_trans hs0 E'.1, hr2, hr3, hx, hZ, rfl, hml, hown, hnm, hret, hlk⟩ E' rfl hs0 (AF.new A' hz))
theorem w_ireturn (X : Sn Z n0 bs mx own nm ret p l e R s m args below meth c T h cells slots) {v : Int32} (hd : decode bs pc = .ok (.ireturn, 1)) (hq : ret = some .int) (q : Q (some (.int v)) h) : W p e below s R n0 Q (T.setTop (mkF m pc Ls (.int v :: st))) := by
  obtain ⟨locs, X, eT, N, hs0, hcl, hsl, hx, hZ, rfl, hml, hown, hnm, hret, hlk⟩ := X
  obtain ⟨fs, hr, hrun, hended, hW, hsame⟩ := X.leave (v := some (.int v)) (fun u => by rw [hret, hq] at u; cases u) hlk
  exact ⟨_, _, retOut X hx (hret.trans hq) rfl (Or.inl ⟨rfl, Or.inl rfl, _, rfl⟩) hd hr, hrun, hended, _, locs, rfl, ⟨N, by rw [← eT] at hs0; exact hs0, by rw [← eT] at q; exact q⟩, ⟨_, rfl⟩, hW, hsame.mono hcl hsl⟩
theorem w_lreturn (X : Sn Z n0 bs mx own nm ret p l e R s m args below meth c T h cells slots) {v : Int64} (hd : decode bs pc = .ok (.lreturn, 1)) (hq : ret = some .long) (q : Q (some (.long v)) h) : W p e below s R n0 Q (T.setTop (mkF m pc Ls (.long v :: st))) := by
  obtain ⟨locs, X, eT, N, hs0, hcl, hsl, hx, hZ, rfl, hml, hown, hnm, hret, hlk⟩ := X
  obtain ⟨fs, hr, hrun, hended, hW, hsame⟩ := X.leave (v := some (.long v)) (fun u => by rw [hret, hq] at u; cases u) hlk
  exact ⟨_, _, retOut X hx (hret.trans hq) rfl (Or.inr (Or.inl ⟨rfl, rfl, _, rfl⟩)) hd hr, hrun, hended, _, locs, rfl, ⟨N, by rw [← eT] at hs0; exact hs0, by rw [← eT] at q; exact q⟩, ⟨_, rfl⟩, hW, hsame.mono hcl hsl⟩
theorem w_areturn (X : Sn Z n0 bs mx own nm ret p l e R s m args below meth c T h cells slots) {v : Value} {t : FieldType} (hd : decode bs pc = .ok (.areturn, 1)) (hq : ret = some t) (ht : t.isReference = true) (hv : v.isRef = true) (hn : narrow t v = v) (q : Q (some v) h) : W p e below s R n0 Q (T.setTop (mkF m pc Ls (v :: st))) := by
  obtain ⟨locs, X, eT, N, hs0, hcl, hsl, hx, hZ, rfl, hml, hown, hnm, hret, hlk⟩ := X
  obtain ⟨fs, hr, hrun, hended, hW, hsame⟩ := X.leave (v := some v) (fun u => by rw [hret, hq] at u; cases u) hlk
  exact ⟨_, _, retOut X hx (hret.trans hq) hn (Or.inr (Or.inr (Or.inr (Or.inr ⟨rfl, ht, hv⟩)))) hd hr, hrun, hended, _, locs, rfl, ⟨N, by rw [← eT] at hs0; exact hs0, by rw [← eT] at q; exact q⟩, ⟨_, rfl⟩, hW, hsame.mono hcl hsl⟩
theorem w_nreturn (X : Sn Z n0 bs mx own nm ret p l e R s m args below meth c T h cells slots) {v : Int32} {t : FieldType} (hd : decode bs pc = .ok (.ireturn, 1)) (hq : ret = some t) (ht : t = .boolean ∨ t = .byte ∨ t = .char ∨ t = .short) (q : Q (some (.int (nar t v))) h) : W p e below s R n0 Q (T.setTop (mkF m pc Ls (.int v :: st))) := by
  obtain ⟨locs, X, eT, N, hs0, hcl, hsl, hx, hZ, rfl, hml, hown, hnm, hret, hlk⟩ := X
  obtain ⟨fs, hr, hrun, hended, hW, hsame⟩ := X.leave (v := some (.int (nar t v))) (fun u => by rw [hret, hq] at u; cases u) hlk
  exact ⟨_, _, retN X hx (hret.trans hq) ht hd hr, hrun, hended, _, locs, rfl, ⟨N, by rw [← eT] at hs0; exact hs0, by rw [← eT] at q; exact q⟩, ⟨_, rfl⟩, hW, hsame.mono hcl hsl⟩
theorem w_return (X : Sn Z n0 bs mx own nm ret p l e R s m args below meth c T h cells slots) (hd : decode bs pc = .ok (.return_, 1)) (hq : ret = none) (q : Q (none) h) : W p e below s R n0 Q (T.setTop (mkF m pc Ls ([]))) := by
  obtain ⟨locs, X, eT, N, hs0, hcl, hsl, hx, hZ, rfl, hml, hown, hnm, hret, hlk⟩ := X
  obtain ⟨fs, hr, hrun, hended, hW, hsame⟩ := X.leave (v := none) (fun _ => rfl) hlk
  exact ⟨_, _, X.returnOut hx (hret.trans hq) hd hr, hrun, hended, _, locs, rfl, ⟨N, by rw [← eT] at hs0; exact hs0, by rw [← eT] at q; exact q⟩, ⟨_, rfl⟩, hW, hsame.mono hcl hsl⟩
theorem w_callS (X : Sn Z n0 bs mx own nm ret p l e R s m args below meth c T h cells slots) {index : Nat} {y : MethodName} {b2 : ByteArray} {m2 : Nat} {r2 : Option FieldType} {R2 : Room} {argsL rest : List Value} {wd : Nat} {ps : List FieldType} {r3 : Option FieldType} {Q2 : Option Value → Heap → Prop} 
    (hd : decode bs pc = .ok (.invokestatic index, 3)) (w1 : (Cond.methodLink own index y).before a0 Z = true) (w2 : (Cond.static y).before a0 Z = true) (w3 : (Cond.initialized y.cls).before a0 Z = true) (w4 : (Cond.code y b2 m2 r2).before a0 Z = true)
    (hy : y.cls ≠ "java/lang/invoke/MethodHandle" ∧ y.cls ≠ "java/lang/invoke/VarHandle") (C : Ct l Z y b2 m2 r2 [] R2 argsL.toArray h n0 Q2) (hpd : parseMethodDescriptor y.desc = some ⟨ps, r3⟩) (hlen : argsL.length = ps.length)
    (hst : st = argsL.reverse ++ rest) (hsz : Ls.size = mx) (hwd : (rest.map fun v => v.category).sum ≤ wd) (hr : R2.frames + 1 ≤ R.frames ∧ wd + (m2 + 11) + R2.locals ≤ R.locals ∧ cells + R2.cells ≤ R.cells ∧ slots + R2.slots ≤ R.slots ∧ pc + 3 = pc')
    (w : ∀ v T' h', Sn Z n0 bs mx own nm ret p l e R s m args below meth c T' h' (cells + R2.cells) (slots + R2.slots) → Q2 v h' → W p e below s R n0 Q (T'.setTop (mkF m pc' Ls (v.toList ++ rest)))) : W p e below s R n0 Q (T.setTop (mkF m pc Ls (st))) := by
  obtain ⟨locs, X, eT, N, hs0, hcl, hsl, hx, hZ, rfl, hml, hown, hnm, hret, hlk⟩ := X
  obtain ⟨hr1, hr2, hr3, hr4, hp⟩ := hr
  obtain ⟨v, vm1, ⟨T', L', k', n'⟩, -, X', ⟨Lc, hQ, l', y', z'⟩, st'⟩ := Jvm.LawKit.callS X hx (y := y) hown (mvT hZ w1) (mvT hZ w2) (mvT hZ w3) (mvT hZ w4) hy (backOf (W := wd) (Q := Qc n0 Q2) C hZ w4 w3 hr1 hr2) (g := mkF m pc Ls st) rfl (hsz.trans hml.symm) (argsL := argsL) (rest := rest) (lenOf hpd hlen) hst (by show 2 * 0 + _ ≤ _; omega) hd (fun _ _ => ⟨rfl, eT, hr3, hr4⟩)
  dsimp only [Pt.U, Pt.locs, Pt.cells, Pt.slots] at X' l' y' z' st' hQ
  subst l' y' z' hp
  exact W.of st' (w v T' T'.heap ⟨_, X', rfl, Fr.app N hQ.1, hQ.2.1, hr3, hr4, hx, hZ, rfl, hml, hown, hnm, hret, hlk⟩ hQ.2.2)
theorem w_callC (X : Sn Z n0 bs mx own nm ret p l e R s m args below meth c T h cells slots) {index : Nat} {y : MethodName} {b2 : ByteArray} {m2 : Nat} {R2 : Room} {argsL rest : List Value} {wd : Nat} {ps : List FieldType} {r3 : Option FieldType} {Q2 : Option Value → Heap → Prop} {a : Addr} (hy1 : y.name = "<init>")
    (hd : decode bs pc = .ok (.invokespecial index, 3)) (w1 : (Cond.methodLink own index y).before a0 Z = true) (w2 : (Cond.instanceMethod y).before a0 Z = true) (w3 : (Cond.initialized y.cls).before a0 Z = true) (w4 : (Cond.code y b2 m2 none).before a0 Z = true)
    (hy : y.cls ≠ "java/lang/invoke/MethodHandle" ∧ y.cls ≠ "java/lang/invoke/VarHandle") (C : Ct l Z y b2 m2 none [] R2 (.ref a :: argsL).toArray h n0 Q2) (hpd : parseMethodDescriptor y.desc = some ⟨ps, r3⟩) (hlen : argsL.length = ps.length)
    (hst : st = argsL.reverse ++ .ref a :: rest) (hsz : Ls.size = mx) (hwd : (rest.map fun v => v.category).sum ≤ wd) (hr : R2.frames + 1 ≤ R.frames ∧ wd + (m2 + 11) + R2.locals ≤ R.locals ∧ cells + R2.cells ≤ R.cells ∧ slots + R2.slots ≤ R.slots ∧ pc + 3 = pc')
    (w : ∀ v T' h', Sn Z n0 bs mx own nm ret p l e R s m args below meth c T' h' (cells + R2.cells) (slots + R2.slots) → Q2 v h' → W p e below s R n0 Q (T'.setTop (mkF m pc' Ls (v.toList ++ rest)))) : W p e below s R n0 Q (T.setTop (mkF m pc Ls (st))) := by
  obtain ⟨locs, X, eT, N, hs0, hcl, hsl, hx, hZ, rfl, hml, hown, hnm, hret, hlk⟩ := X
  obtain ⟨hr1, hr2, hr3, hr4, hp⟩ := hr
  obtain ⟨v, vm1, ⟨T', L', k', n'⟩, -, X', ⟨Lc, hQ, l', y', z'⟩, st'⟩ := X.specialBack hx (y := y) hy1 hown (mvT hZ w1) (mvT hZ w2) (mvT hZ w4) hy (backOf (W := wd) (Q := Qc n0 Q2) C hZ w4 w3 hr1 hr2) (g := mkF m pc Ls st) rfl (hsz.trans hml.symm) (Steps.refl _) (a := a) (argsL := argsL) (rest := rest) (lenOf hpd hlen) hst (by show 2 * 0 + _ ≤ _; omega) hd (fun _ _ => ⟨rfl, eT, hr3, hr4⟩)
  dsimp only [Pt.U, Pt.locs, Pt.cells, Pt.slots] at X' l' y' z' st' hQ
  subst l' y' z' hp
  exact W.fwd st' (w v T' T'.heap ⟨_, X', rfl, Fr.app N hQ.1, hQ.2.1, hr3, hr4, hx, hZ, rfl, hml, hown, hnm, hret, hlk⟩ hQ.2.2)
theorem w_callV (X : Sn Z n0 bs mx own nm ret p l e R s m args below meth c T h cells slots) {index : Nat} {y : MethodName} {b2 : ByteArray} {m2 : Nat} {r2 : Option FieldType} {R2 : Room} {argsL rest : List Value} {wd : Nat} {ps : List FieldType} {r3 : Option FieldType} {Q2 : Option Value → Heap → Prop} {a : Addr} {K : String} (E : Exa Z h a K)
    (hd : decode bs pc = .ok (.invokevirtual index, 3)) (w1 : (Cond.methodLink own index y).before a0 Z = true) (wd0 : (Cond.declares y).before a0 Z = true) (ws0 : (Cond.selects K y y).before a0 Z = true) (w2 : (Cond.instanceMethod y).before a0 Z = true) (w3 : (Cond.initialized y.cls).before a0 Z = true) (w4 : (Cond.code y b2 m2 r2).before a0 Z = true)
    (hy : y.cls ≠ "java/lang/invoke/MethodHandle" ∧ y.cls ≠ "java/lang/invoke/VarHandle") (C : Ct l Z y b2 m2 r2 [] R2 (.ref a :: argsL).toArray h n0 Q2) (hpd : parseMethodDescriptor y.desc = some ⟨ps, r3⟩) (hlen : argsL.length = ps.length)
    (hst : st = argsL.reverse ++ .ref a :: rest) (hsz : Ls.size = mx) (hwd : (rest.map fun v => v.category).sum ≤ wd) (hr : R2.frames + 1 ≤ R.frames ∧ wd + (m2 + 11) + R2.locals ≤ R.locals ∧ cells + R2.cells ≤ R.cells ∧ slots + R2.slots ≤ R.slots ∧ pc + 3 = pc')
    (w : ∀ v T' h', Sn Z n0 bs mx own nm ret p l e R s m args below meth c T' h' (cells + R2.cells) (slots + R2.slots) → Q2 v h' → W p e below s R n0 Q (T'.setTop (mkF m pc' Ls (v.toList ++ rest)))) : W p e below s R n0 Q (T.setTop (mkF m pc Ls (st))) := by
  obtain ⟨locs, X, eT, N, hs0, hcl, hsl, hx, hZ, rfl, hml, hown, hnm, hret, hlk⟩ := X
  obtain ⟨hr1, hr2, hr3, hr4, hp⟩ := hr
  obtain ⟨cq, kq, qa, qb, qc⟩ := isOf hZ eT E
  obtain ⟨v, vm1, ⟨T', L', k', n'⟩, -, X', ⟨Lc, hQ, l', y', z'⟩, st'⟩ := X.virtualBack hx (y := y) (z := y) hown (mvT hZ w1) (mvT hZ wd0) (notFace_of_selects (args := #[]) (mvT hZ ws0)) (mvT hZ ws0) (mvT hZ w2) hy (backOf (W := wd) (Q := Qc n0 Q2) C hZ w4 w3 hr1 hr2) qa qc (g := mkF m pc Ls st) rfl (hsz.trans hml.symm) (Steps.refl _) (argsL := argsL) (rest := rest) (lenOf hpd hlen) hst (by show 2 * 0 + _ ≤ _; omega) hd (fun _ _ => ⟨rfl, eT, hr3, hr4⟩)
  dsimp only [Pt.U, Pt.locs, Pt.cells, Pt.slots] at X' l' y' z' st' hQ
  subst l' y' z' hp
  exact W.fwd st' (w v T' T'.heap ⟨_, X', rfl, Fr.app N hQ.1, hQ.2.1, hr3, hr4, hx, hZ, rfl, hml, hown, hnm, hret, hlk⟩ hQ.2.2)
theorem w_initO (X : Sn Z n0 bs mx own nm ret p l e R s m args below meth c T h cells slots) {idx : Nat} {a : Addr} {wd : Nat} (hd : decode bs pc = .ok (.invokespecial idx, 3)) (w1 : (Cond.methodLink own idx Lib.objectInit).before a0 Z = true) (w2 : (Cond.instanceMethod Lib.objectInit).before a0 Z = true) (w3 : (Cond.code Lib.objectInit ⟨#[0xb1]⟩ 1 none).before a0 Z = true)
    (hsz : Ls.size = mx) (hwd : (st.map fun v => v.category).sum ≤ wd) (hr : 1 ≤ R.frames ∧ wd + 12 ≤ R.locals ∧ pc + 3 = pc') (w : ∀ T', Sn Z n0 bs mx own nm ret p l e R s m args below meth c T' h cells slots → W p e below s R n0 Q (T'.setTop (mkF m pc' Ls (st)))) : W p e below s R n0 Q (T.setTop (mkF m pc Ls (.ref a :: st))) := by
  obtain ⟨locs, X, eT, N, hs0, hcl, hsl, hx, hZ, rfl, hml, hown, hnm, hret, hlk⟩ := X
  obtain ⟨hr1, hr2, hp⟩ := hr
  subst hp
  obtain ⟨T', X', e', st'⟩ := initO X hx hZ hown w1 w2 w3 eT (g := mkF m pc Ls (.ref a :: st)) rfl (hsz.trans hml.symm) rfl hd hr1 (W := wd) (by show 2 * 0 + _ ≤ _; omega) hr2
  exact W.of st' (w T' ⟨_, X', e', N, hs0, hcl, hsl, hx, hZ, rfl, hml, hown, hnm, hret, hlk⟩)
theorem w_getfield (X : Sn Z n0 bs mx own nm ret p l e R s m args below meth c T h cells slots) {R0 O n d : String} {index : Nat} {a : Addr} {v : Value} (F : Fld Z h a O n d v) (hd : decode bs pc = .ok (.getfield index, 3)) (w1 : (Cond.fieldLink own index R0 n d).before a0 Z = true) (via : Via Z R0 O n d) (hp : pc + 3 = pc')
    (w : ∀ T', Sn Z n0 bs mx own nm ret p l e R s m args below meth c T' h cells slots → W p e below s R n0 Q (T'.setTop (mkF m pc' Ls (v :: st)))) : W p e below s R n0 Q (T.setTop (mkF m pc Ls (.ref a :: st))) := by
  obtain ⟨locs, X, eT, N, hs0, hcl, hsl, hx, hZ, rfl, hml, hown, hnm, hret, hlk⟩ := X
  subst hp
  obtain ⟨T', X', e', st'⟩ := getF X hx hZ hown (host := "") (Or.inl w1) via eT F (g := mkF m pc Ls (.ref a :: st)) rfl rfl hd
  exact W.of st' (w T' ⟨_, X', e', N, hs0, hcl, hsl, hx, hZ, rfl, hml, hown, hnm, hret, hlk⟩)
theorem w_putfield (X : Sn Z n0 bs mx own nm ret p l e R s m args below meth c T h cells slots) {R0 O n d K : String} {index kk : Nat} {ty : FieldType} {a : Addr} {v v' old : Value} (F : Fld Z h a O n d old) (E : Exa Z h a K) (hd : decode bs pc = .ok (.putfield index, 3)) (w1 : (Cond.fieldLink own index R0 n d).before a0 Z = true) (via : Via Z R0 O n d)
    (L : (Cond.lays K O n d).before a0 Z = true ∨ ((Cond.laysFinal K O n d).before a0 Z = true ∧ own = O ∧ nm = "<init>")) (wi : (Cond.instantiable K kk).before a0 Z = true) (hty : parseFieldDescriptor d = some ty) (hn : narrow ty v = v') (hf : fits ty v' = true) (hp : pc + 3 = pc') (ha : n0 ≤ a)
    (w : ∀ T' h', Sn Z n0 bs mx own nm ret p l e R s m args below meth c T' h' cells slots → Wr h h' a (Jvm.RoadKit.slotOf Z O n d) v' → W p e below s R n0 Q (T'.setTop (mkF m pc' Ls (st)))) : W p e below s R n0 Q (T.setTop (mkF m pc Ls (v :: .ref a :: st))) := by
  obtain ⟨locs, X, eT, N, hs0, hcl, hsl, hx, hZ, rfl, hml, hown, hnm, hret, hlk⟩ := X
  subst hp
  obtain ⟨T', h', X', e', W', st'⟩ := putFN X hx hZ hown w1 via eT F E (L.imp id fun q => ⟨q.1, q.2.1, hnm.trans q.2.2⟩) wi hty hn hf (g := mkF m pc Ls (v :: .ref a :: st)) rfl rfl hd
  exact W.of st' (w T' h' ⟨_, X', e', Fr.snoc X' N ha, by rw [W'.size]; exact hs0, hcl, hsl, hx, hZ, rfl, hml, hown, hnm, hret, hlk⟩ W')
theorem w_new (X : Sn Z n0 bs mx own nm ret p l e R s m args below meth c T h cells slots) {K : String} {index kk : Nat} (hd : decode bs pc = .ok (.new index, 3)) (w1 : (Cond.classLink own index K).before a0 Z = true) (wi : (Cond.instantiable K kk).before a0 Z = true) (wz : (Cond.initialized K).before a0 Z = true) (hr : cells + 1 ≤ R.cells ∧ slots + kk ≤ R.slots ∧ pc + 3 = pc')
    (w : ∀ T' h' b, Sn Z n0 bs mx own nm ret p l e R s m args below meth c T' h' (cells + 1) (slots + kk) → Ext h h' → b = h.size → n0 ≤ b → Exa Z h' b K → (∀ {O nm d : String} {ty : FieldType}, Laid Z a0 K O nm d → parseFieldDescriptor d = some ty → Fld Z h' b O nm d (defaultValue ty)) → W p e below s R n0 Q (T'.setTop (mkF m pc' Ls (.ref b :: st)))) : W p e below s R n0 Q (T.setTop (mkF m pc Ls (st))) := by
  obtain ⟨locs, X, eT, N, hs0, hcl, hsl, hx, hZ, rfl, hml, hown, hnm, hret, hlk⟩ := X
  obtain ⟨hr1, hr2, hp⟩ := hr
  subst hp
  obtain ⟨T', h', X', e', E', A', D', -, st'⟩ := newO X hx hZ hown w1 wi wz eT (g := mkF m pc Ls st) rfl hd hr1 hr2
  exact W.of st' (w T' h' _ ⟨_, X', e', N, Nat.le_trans hs0 E'.1, hr1, hr2, hx, hZ, rfl, hml, hown, hnm, hret, hlk⟩ E' rfl hs0 A' D')
end
end Jvm.OwnW
namespace Jvm.Pilot.@@N@@
open Jvm Jvm.ClassFile Sem Op Lib Jvm.Free Jvm.Stand Jvm.LawKit Jvm.RoadKit Bundle Jvm.OwnW Jvm.Pilot.@@N@@.Jvm.D

theorem own_i {i : Nat} (h : i < 2 ^ 31) : (Int32.ofNat i).toInt = i := Int32.toInt_ofNat_small h
theorem own_of {x : Int32} {n : Nat} (h : x.toInt = n) : x = Int32.ofNat n := Int32.toInt_inj.mp (by rw [h, own_i (by have := x.toInt_lt; omega)])
theorem own_addn (i j : Nat) : Int32.ofNat i + Int32.ofNat j = Int32.ofNat (i + j) := (Int32.ofNat_add i j).symm
theorem own_addI {i j : Nat} (h : i + j < 2 ^ 31) : (Int32.ofNat i + Int32.ofNat j).toInt = ((i + j : Nat) : Int) := by rw [own_addn, own_i h]
theorem own_div {i : Nat} (h : i < 255) (d : Int32) {k : Nat} (hd : d.toInt = k) (hk : 0 < k) : Int32.ofNat i / d = Int32.ofNat (i / k) := own_of (by
  have e := own_i (i := i) (by omega)
  rw [Jvm.Kit.i32_div (by omega), e, hd]; rfl)
theorem own_mod {i : Nat} (h : i < 255) (d : Int32) {k : Nat} (hd : d.toInt = k) : Int32.ofNat i % d = Int32.ofNat (i % k) := own_of (by
  have e := own_i (i := i) (by omega)
  rw [Jvm.Kit.i32_rem_nonneg (by omega), e, hd]; rfl)
def own_sh (w : Int64) (i : Nat) : Int64 := if i = 0 then w else lus w (8 * Int32.ofNat i)
def own_by (w : Int64) (i : Nat) : Int32 := (own_sh w i).toInt32.toInt8.toInt32.toInt8.toInt32
def own_f (f : Nat → Value) (pp : Nat) (w : Int64) : Nat → Value := fun j => if pp ≤ j ∧ j < pp + 8 then .int (own_by w (j - pp)) else f j
theorem own_put (f : Nat → Value) (pp : Nat) (w : Int64) (j : Nat) : up (up (up (up (up (up (up (up f pp (.int w.toInt32.toInt8.toInt32.toInt8.toInt32)) (pp + 1) (.int (lus w 8).toInt32.toInt8.toInt32.toInt8.toInt32)) (pp + 2) (.int (lus w 16).toInt32.toInt8.toInt32.toInt8.toInt32)) (pp + 3) (.int (lus w 24).toInt32.toInt8.toInt32.toInt8.toInt32)) (pp + 4) (.int (lus w 32).toInt32.toInt8.toInt32.toInt8.toInt32)) (pp + 5) (.int (lus w 40).toInt32.toInt8.toInt32.toInt8.toInt32)) (pp + 6) (.int (lus w 48).toInt32.toInt8.toInt32.toInt8.toInt32)) (pp + 7) (.int (lus w 56).toInt32.toInt8.toInt32.toInt8.toInt32) j = own_f f pp w j := by
  unfold own_f
  by_cases h : pp ≤ j ∧ j < pp + 8
  · rw [if_pos h]
    obtain ⟨d, rfl⟩ : ∃ d, j = pp + d := ⟨j - pp, by omega⟩
    have hd : d < 8 := by omega
    rw [Nat.add_sub_cancel_left]
    match d, hd with
    | 0, _ => simp [up, own_by, own_sh]
    | 1, _ => simp [up, own_by, own_sh]
    | 2, _ => simp [up, own_by, own_sh]
    | 3, _ => simp [up, own_by, own_sh]
    | 4, _ => simp [up, own_by, own_sh]
    | 5, _ => simp [up, own_by, own_sh]
    | 6, _ => simp [up, own_by, own_sh]
    | 7, _ => simp [up, own_by, own_sh]
  · rw [if_neg h]
    rw [up_ne (by omega), up_ne (by omega), up_ne (by omega), up_ne (by omega), up_ne (by omega), up_ne (by omega), up_ne (by omega), up_ne (by omega)]
abbrev own_bit (bb : Nat → Int32) (i : Nat) : Prop := isr (bb (i / 8)) (Int32.ofNat (i % 8)) &&& 1 ≠ 0
def own_r (bb : Nat → Int32) : Nat → Nat → Int64
  | 0 => fun _ => 0
  | i + 1 => fun j => if own_bit bb i ∧ j = i / 26 then own_r bb i j ||| lsl 1 (Int32.ofNat (i % 26)) else own_r bb i j
theorem own_r1 {bb : Nat → Int32} {i : Nat} (q : own_bit bb i) (j : Nat) : up (fun j => .long (own_r bb i j)) (i / 26) (.long (own_r bb i (i / 26) ||| lsl 1 (Int32.ofNat (i % 26)))) j = .long (own_r bb (i + 1) j) := by
  show _ = Value.long (if own_bit bb i ∧ j = i / 26 then own_r bb i j ||| lsl 1 (Int32.ofNat (i % 26)) else own_r bb i j)
  unfold up
  by_cases z : j = i / 26
  · rw [if_pos z, if_pos ⟨q, z⟩, z]
  · rw [if_neg z, if_neg fun y => z y.2]
theorem own_r0 {bb : Nat → Int32} {i : Nat} (q : ¬ own_bit bb i) (j : Nat) : Value.long (own_r bb i j) = .long (own_r bb (i + 1) j) := by
  show _ = Value.long (if own_bit bb i ∧ j = i / 26 then own_r bb i j ||| lsl 1 (Int32.ofNat (i % 26)) else own_r bb i j)
  rw [if_neg fun y => q y.1]
def own_bb (w0 w1 w2 w3 : Int64) : Nat → Int32 := fun i => if i < 8 then own_by w0 i else if i < 16 then own_by w1 (i - 8) else if i < 24 then own_by w2 (i - 16) else own_by w3 (i - 24)
theorem own_cont (base : Nat → Value) (o : Nat) (w0 w1 w2 w3 : Int64) : ∀ i, i < 32 → own_f (own_f (own_f (own_f base o w0) (o + 8) w1) (o + 16) w2) (o + 24) w3 (o + i) = .int (own_bb w0 w1 w2 w3 i) := by
  intro i hi
  unfold own_f own_bb
  by_cases h0 : i < 8
  · rw [if_neg (by omega), if_neg (by omega), if_neg (by omega), if_pos (by omega), if_pos h0, Nat.add_sub_cancel_left]
  · by_cases h1 : i < 16
    · rw [if_neg (by omega), if_neg (by omega), if_pos (by omega), if_neg h0, if_pos h1, show o + i - (o + 8) = i - 8 by omega]
    · by_cases h2 : i < 24
      · rw [if_neg (by omega), if_pos (by omega), if_neg h0, if_neg h1, if_pos h2, show o + i - (o + 16) = i - 16 by omega]
      · rw [if_pos (by omega), if_neg h0, if_neg h1, if_neg h2, show o + i - (o + 24) = i - 24 by omega]
theorem own_off (x : Int32) : ∃ o : Nat, (x &&& 3) = Int32.ofNat o ∧ o ≤ 3 := by
  have e1 : (x &&& 3).toInt = x.toInt % 2 ^ 2 := Jvm.Kit.i32_mask x 3 (k := 2) (by decide) (by decide)
  exact ⟨(x &&& 3).toInt.toNat, own_of (by omega), by omega⟩
theorem own_one (k i : Nat) (hi : i < 64) : ((1#64 : BitVec 64) <<< k).getLsbD i = decide (i = k) := by
  rw [BitVec.getLsbD_shiftLeft, BitVec.getLsbD_one]
  by_cases q : i = k
  · subst q; simp [hi]
  · by_cases r : i < k
    · simp [r, q]
    · have : ¬ (i - k = 0) := by omega
      simp [this, q]
theorem own_sm8 : ∀ i : Nat, i < 8 → 8 * Int32.ofNat i = Int32.ofNat (8 * i) := by decide +kernel
theorem own_shB (w : Int64) {d : Nat} (hd : d < 8) : (own_sh w d).toBitVec = w.toBitVec >>> (8 * d) := by
  unfold own_sh
  split
  · rename_i q; subst q; simp
  · rw [own_sm8 d hd, lusB w (by omega)]
theorem own_8b : ∀ b : BitVec 8, ∀ e : Nat, e < 8 → decide (isr ((Int8.ofBitVec b).toInt32.toInt8.toInt32) (Int32.ofNat e) &&& 1 ≠ 0) = b.getLsbD e := by decide +kernel
theorem own_byB (w : Int64) {d e : Nat} (hd : d < 8) (he : e < 8) : (isr (own_by w d) (Int32.ofNat e) &&& 1 ≠ 0) ↔ w.toBitVec.getLsbD (8 * d + e) = true := by
  have h := own_8b ((own_sh w d).toInt32.toInt8).toBitVec e he
  have e1 : ((own_sh w d).toInt32.toInt8).toBitVec.getLsbD e = w.toBitVec.getLsbD (8 * d + e) := by
    show (((own_sh w d).toBitVec.signExtend 32).signExtend 8).getLsbD e = _
    rw [BitVec.signExtend_eq_setWidth_of_le _ (by decide), BitVec.signExtend_eq_setWidth_of_le _ (by decide), BitVec.getLsbD_setWidth, BitVec.getLsbD_setWidth, own_shB w hd, BitVec.getLsbD_ushiftRight]
    simp [he, show e < 32 by omega]
  rw [e1] at h
  rw [← h, decide_eq_true_iff]; exact Iff.rfl
def own_beta (w0 w1 w2 w3 : Int64) (i : Nat) : Bool := if i < 64 then w0.toBitVec.getLsbD i else if i < 128 then w1.toBitVec.getLsbD (i - 64) else if i < 192 then w2.toBitVec.getLsbD (i - 128) else w3.toBitVec.getLsbD (i - 192)
theorem own_bt (w0 w1 w2 w3 : Int64) {i : Nat} (hi : i < 256) : own_bit (own_bb w0 w1 w2 w3) i ↔ own_beta w0 w1 w2 w3 i = true := by
  unfold own_bit own_bb own_beta
  have hm : i % 8 < 8 := Nat.mod_lt _ (by decide)
  by_cases h0 : i < 64
  · rw [if_pos (show i / 8 < 8 by omega), if_pos h0, own_byB w0 (by omega) hm, show 8 * (i / 8) + i % 8 = i by omega]
  · by_cases h1 : i < 128
    · rw [if_neg (show ¬ i / 8 < 8 by omega), if_pos (show i / 8 < 16 by omega), if_neg h0, if_pos h1, own_byB w1 (by omega) hm, show 8 * (i / 8 - 8) + i % 8 = i - 64 by omega]
    · by_cases h2 : i < 192
      · rw [if_neg (show ¬ i / 8 < 8 by omega), if_neg (show ¬ i / 8 < 16 by omega), if_pos (show i / 8 < 24 by omega), if_neg h0, if_neg h1, if_pos h2, own_byB w2 (by omega) hm, show 8 * (i / 8 - 16) + i % 8 = i - 128 by omega]
      · rw [if_neg (show ¬ i / 8 < 8 by omega), if_neg (show ¬ i / 8 < 16 by omega), if_neg (show ¬ i / 8 < 24 by omega), if_neg h0, if_neg h1, if_neg h2, own_byB w3 (by omega) hm, show 8 * (i / 8 - 24) + i % 8 = i - 192 by omega]
theorem own_rB (w0 w1 w2 w3 : Int64) : ∀ n, n ≤ 255 → ∀ j b, b < 64 → (own_r (own_bb w0 w1 w2 w3) n j).toBitVec.getLsbD b = (decide (b < 26) && decide (26 * j + b < n) && own_beta w0 w1 w2 w3 (26 * j + b))
  | 0, _, j, b, _ => by
    show (0#64).getLsbD b = _
    simp
  | n + 1, hn, j, b, hb => by
    have ih := own_rB w0 w1 w2 w3 n (by omega) j b hb
    have hbt := own_bt w0 w1 w2 w3 (i := n) (by omega)
    have hu : own_r (own_bb w0 w1 w2 w3) (n + 1) j = if own_bit (own_bb w0 w1 w2 w3) n ∧ j = n / 26 then own_r (own_bb w0 w1 w2 w3) n j ||| lsl 1 (Int32.ofNat (n % 26)) else own_r (own_bb w0 w1 w2 w3) n j := rfl
    rw [hu]
    by_cases q : own_bit (own_bb w0 w1 w2 w3) n ∧ j = n / 26
    · rw [if_pos q, Int64.toBitVec_or, BitVec.getLsbD_or, ih, lslB 1 (by omega)]
      have e : (1 : Int64).toBitVec = 1#64 := rfl
      rw [e, own_one _ _ hb]
      have hq := hbt.mp q.1
      by_cases z : b = n % 26
      · have e2 : 26 * j + b = n := by omega
        rw [e2, hq]; simp [z]; omega
      · have e3 : decide (b = n % 26) = false := by simp [z]
        rw [e3, Bool.or_false]
        by_cases c : b < 26
        · have : (26 * j + b < n ↔ 26 * j + b < n + 1) := by omega
          simp only [this]
        · simp [c]
    · rw [if_neg q, ih]
      by_cases z : b < 26 ∧ 26 * j + b = n
      · have hnb : own_beta w0 w1 w2 w3 n = false := by
          have : ¬ own_bit (own_bb w0 w1 w2 w3) n := fun y => q ⟨y, by omega⟩
          rw [hbt] at this; simpa using this
        rw [z.2, hnb, Bool.and_false, Bool.and_false]
      · by_cases c : b < 26
        · have : (26 * j + b < n ↔ 26 * j + b < n + 1) := by omega
          simp only [this]
        · simp [c]
theorem own_M : ∀ b : Nat, b < 64 → (67108863 : Int64).toBitVec.getLsbD b = decide (b < 26) := by decide +kernel
theorem own_M2 : ∀ b : Nat, b < 64 → (2097151 : Int64).toBitVec.getLsbD b = decide (b < 21) := by decide +kernel
theorem own_eq {x y : Int64} (h : ∀ b, b < 64 → x.toBitVec.getLsbD b = y.toBitVec.getLsbD b) : x = y := Int64.toBitVec_inj.mp (BitVec.eq_of_getLsbD_eq h)
theorem own_lusb (w : Int64) {k : Nat} (hk : k < 64) (b : Nat) : (lus w (Int32.ofNat k)).toBitVec.getLsbD b = w.toBitVec.getLsbD (k + b) := by rw [lusB w hk, BitVec.getLsbD_ushiftRight]
theorem own_lslb (w : Int64) {k : Nat} (hk : k < 64) {b : Nat} (hb : b < 64) : (lsl w (Int32.ofNat k)).toBitVec.getLsbD b = (decide (k ≤ b) && w.toBitVec.getLsbD (b - k)) := by
  rw [lslB w hk, BitVec.getLsbD_shiftLeft]
  by_cases q : b < k
  · simp [q, Nat.not_le.mpr q]
  · simp [q, hb, Nat.not_lt.mp q]
theorem own_ge (w : Int64) {i : Nat} (h : 64 ≤ i) : w.toBitVec.getLsbD i = false := BitVec.getLsbD_of_ge _ _ h
theorem own_ba {w0 w1 w2 w3 : Int64} {i : Nat} (h : i < 64) : own_beta w0 w1 w2 w3 i = w0.toBitVec.getLsbD i := if_pos h
theorem own_bb1 {w0 w1 w2 w3 : Int64} {i : Nat} (h : 64 ≤ i) (h2 : i < 128) : own_beta w0 w1 w2 w3 i = w1.toBitVec.getLsbD (i - 64) := by unfold own_beta; rw [if_neg (by omega), if_pos h2]
theorem own_bc {w0 w1 w2 w3 : Int64} {i : Nat} (h : 128 ≤ i) (h2 : i < 192) : own_beta w0 w1 w2 w3 i = w2.toBitVec.getLsbD (i - 128) := by unfold own_beta; rw [if_neg (by omega), if_neg (by omega), if_pos h2]
theorem own_bd {w0 w1 w2 w3 : Int64} {i : Nat} (h : 192 ≤ i) : own_beta w0 w1 w2 w3 i = w3.toBitVec.getLsbD (i - 192) := by unfold own_beta; rw [if_neg (by omega), if_neg (by omega), if_neg (by omega)]
-- one word
theorem own_Lone (w0 w1 w2 w3 w : Int64) (j k : Nat) (hk : k < 64) (hj : 26 * j + 26 ≤ 255) (hw : ∀ b, b < 26 → own_beta w0 w1 w2 w3 (26 * j + b) = w.toBitVec.getLsbD (k + b)) : own_r (own_bb w0 w1 w2 w3) 255 j = lus w (Int32.ofNat k) &&& 67108863 := by
  apply own_eq; intro b hb
  rw [own_rB w0 w1 w2 w3 255 (Nat.le_refl _) j b hb, Int64.toBitVec_and, BitVec.getLsbD_and, own_M b hb, own_lusb w hk]
  by_cases c : b < 26
  · rw [hw b c]; simp [c]; omega
  · simp [c]
theorem own_Ltwo (w0 w1 w2 w3 w w' : Int64) (j k k' : Nat) (hk : k < 64) (hk' : k' < 64) (hs : k + k' = 64) (hj : 26 * j + 26 ≤ 255) (hw : ∀ b, b < k' → own_beta w0 w1 w2 w3 (26 * j + b) = w.toBitVec.getLsbD (k + b)) (hw' : ∀ b, k' ≤ b → b < 26 → own_beta w0 w1 w2 w3 (26 * j + b) = w'.toBitVec.getLsbD (b - k')) : own_r (own_bb w0 w1 w2 w3) 255 j = (lus w (Int32.ofNat k) ||| lsl w' (Int32.ofNat k')) &&& 67108863 := by
  apply own_eq; intro b hb
  rw [own_rB w0 w1 w2 w3 255 (Nat.le_refl _) j b hb, Int64.toBitVec_and, BitVec.getLsbD_and, own_M b hb, Int64.toBitVec_or, BitVec.getLsbD_or, own_lusb w hk, own_lslb w' hk' hb]
  by_cases c : b < 26
  · by_cases d : b < k'
    · rw [hw b d]; simp [c, Nat.not_le.mpr d]; omega
    · rw [hw' b (by omega) c, own_ge w (show 64 ≤ k + b by omega)]; simp [c, Nat.not_lt.mp d]; omega
  · simp [c]
theorem own_L0 (w0 w1 w2 w3 : Int64) : own_r (own_bb w0 w1 w2 w3) 255 0 = w0 &&& 67108863 := by
  have h := own_Lone w0 w1 w2 w3 w0 0 0 (by decide) (by decide) (fun b hb => by rw [own_ba (by omega), Nat.mul_zero])
  have e : lus w0 (Int32.ofNat 0) = w0 := un_inj (by rw [un_lus w0 (by decide), Nat.pow_zero, Nat.div_one])
  rw [e] at h; exact h
theorem own_L1 (w0 w1 w2 w3 : Int64) : own_r (own_bb w0 w1 w2 w3) 255 1 = lus w0 26 &&& 67108863 := own_Lone w0 w1 w2 w3 w0 1 26 (by decide) (by decide) (fun b hb => by rw [own_ba (by omega), show 26 * 1 + b = 26 + b by omega])
theorem own_L2 (w0 w1 w2 w3 : Int64) : own_r (own_bb w0 w1 w2 w3) 255 2 = (lus w0 52 ||| lsl w1 12) &&& 67108863 := own_Ltwo w0 w1 w2 w3 w0 w1 2 52 12 (by decide) (by decide) rfl (by decide) (fun b hb => by rw [own_ba (by omega), show 26 * 2 + b = 52 + b by omega]) (fun b h1 h2 => by rw [own_bb1 (by omega) (by omega), show 26 * 2 + b - 64 = b - 12 by omega])
theorem own_L3 (w0 w1 w2 w3 : Int64) : own_r (own_bb w0 w1 w2 w3) 255 3 = lus w1 14 &&& 67108863 := own_Lone w0 w1 w2 w3 w1 3 14 (by decide) (by decide) (fun b hb => by rw [own_bb1 (by omega) (by omega), show 26 * 3 + b - 64 = 14 + b by omega])
theorem own_L4 (w0 w1 w2 w3 : Int64) : own_r (own_bb w0 w1 w2 w3) 255 4 = (lus w1 40 ||| lsl w2 24) &&& 67108863 := own_Ltwo w0 w1 w2 w3 w1 w2 4 40 24 (by decide) (by decide) rfl (by decide) (fun b hb => by rw [own_bb1 (by omega) (by omega), show 26 * 4 + b - 64 = 40 + b by omega]) (fun b h1 h2 => by rw [own_bc (by omega) (by omega), show 26 * 4 + b - 128 = b - 24 by omega])
theorem own_L5 (w0 w1 w2 w3 : Int64) : own_r (own_bb w0 w1 w2 w3) 255 5 = lus w2 2 &&& 67108863 := own_Lone w0 w1 w2 w3 w2 5 2 (by decide) (by decide) (fun b hb => by rw [own_bc (by omega) (by omega), show 26 * 5 + b - 128 = 2 + b by omega])
theorem own_L6 (w0 w1 w2 w3 : Int64) : own_r (own_bb w0 w1 w2 w3) 255 6 = lus w2 28 &&& 67108863 := own_Lone w0 w1 w2 w3 w2 6 28 (by decide) (by decide) (fun b hb => by rw [own_bc (by omega) (by omega), show 26 * 6 + b - 128 = 28 + b by omega])
theorem own_L7 (w0 w1 w2 w3 : Int64) : own_r (own_bb w0 w1 w2 w3) 255 7 = (lus w2 54 ||| lsl w3 10) &&& 67108863 := own_Ltwo w0 w1 w2 w3 w2 w3 7 54 10 (by decide) (by decide) rfl (by decide) (fun b hb => by rw [own_bc (by omega) (by omega), show 26 * 7 + b - 128 = 54 + b by omega]) (fun b h1 h2 => by rw [own_bd (by omega), show 26 * 7 + b - 192 = b - 10 by omega])
theorem own_L8 (w0 w1 w2 w3 : Int64) : own_r (own_bb w0 w1 w2 w3) 255 8 = lus w3 16 &&& 67108863 := own_Lone w0 w1 w2 w3 w3 8 16 (by decide) (by decide) (fun b hb => by rw [own_bd (by omega), show 26 * 8 + b - 192 = 16 + b by omega])
theorem own_L9 (w0 w1 w2 w3 : Int64) : own_r (own_bb w0 w1 w2 w3) 255 9 = lus w3 42 &&& 2097151 := by
  apply own_eq; intro b hb
  rw [own_rB w0 w1 w2 w3 255 (Nat.le_refl _) 9 b hb, Int64.toBitVec_and, BitVec.getLsbD_and, own_M2 b hb, show (42 : Int32) = Int32.ofNat 42 from rfl, own_lusb w3 (by decide)]
  by_cases c : b < 21
  · rw [own_bd (by omega), show 26 * 9 + b - 192 = 42 + b by omega]; simp [c]; omega
  · have : ¬ (26 * 9 + b < 255) := by omega
    simp [c, this]

theorem d1_0 : decode method_2_code 0 = .ok (.aload_n 0, 1) := by decide +kernel
theorem d1_1 : decode method_2_code 1 = .ok (.iload_n 1, 1) := by decide +kernel
theorem d1_2 : decode method_2_code 2 = .ok (.lload_n 2, 1) := by decide +kernel
theorem d1_3 : decode method_2_code 3 = .ok (.l2i, 1) := by decide +kernel
theorem d1_4 : decode method_2_code 4 = .ok (.i2b, 1) := by decide +kernel
theorem d1_5 : decode method_2_code 5 = .ok (.bastore, 1) := by decide +kernel
theorem d1_6 : decode method_2_code 6 = .ok (.aload_n 0, 1) := by decide +kernel
theorem d1_7 : decode method_2_code 7 = .ok (.iload_n 1, 1) := by decide +kernel
theorem d1_8 : decode method_2_code 8 = .ok (.iconst 1, 1) := by decide +kernel
theorem d1_9 : decode method_2_code 9 = .ok (.iadd, 1) := by decide +kernel
theorem d1_10 : decode method_2_code 10 = .ok (.lload_n 2, 1) := by decide +kernel
theorem d1_11 : decode method_2_code 11 = .ok (.bipush 8, 2) := by decide +kernel
theorem d1_13 : decode method_2_code 13 = .ok (.lushr, 1) := by decide +kernel
theorem d1_14 : decode method_2_code 14 = .ok (.l2i, 1) := by decide +kernel
theorem d1_15 : decode method_2_code 15 = .ok (.i2b, 1) := by decide +kernel
theorem d1_16 : decode method_2_code 16 = .ok (.bastore, 1) := by decide +kernel
theorem d1_17 : decode method_2_code 17 = .ok (.aload_n 0, 1) := by decide +kernel
theorem d1_18 : decode method_2_code 18 = .ok (.iload_n 1, 1) := by decide +kernel
theorem d1_19 : decode method_2_code 19 = .ok (.iconst 2, 1) := by decide +kernel
theorem d1_20 : decode method_2_code 20 = .ok (.iadd, 1) := by decide +kernel
theorem d1_21 : decode method_2_code 21 = .ok (.lload_n 2, 1) := by decide +kernel
theorem d1_22 : decode method_2_code 22 = .ok (.bipush 16, 2) := by decide +kernel
theorem d1_24 : decode method_2_code 24 = .ok (.lushr, 1) := by decide +kernel
theorem d1_25 : decode method_2_code 25 = .ok (.l2i, 1) := by decide +kernel
theorem d1_26 : decode method_2_code 26 = .ok (.i2b, 1) := by decide +kernel
theorem d1_27 : decode method_2_code 27 = .ok (.bastore, 1) := by decide +kernel
theorem d1_28 : decode method_2_code 28 = .ok (.aload_n 0, 1) := by decide +kernel
theorem d1_29 : decode method_2_code 29 = .ok (.iload_n 1, 1) := by decide +kernel
theorem d1_30 : decode method_2_code 30 = .ok (.iconst 3, 1) := by decide +kernel
theorem d1_31 : decode method_2_code 31 = .ok (.iadd, 1) := by decide +kernel
theorem d1_32 : decode method_2_code 32 = .ok (.lload_n 2, 1) := by decide +kernel
theorem d1_33 : decode method_2_code 33 = .ok (.bipush 24, 2) := by decide +kernel
theorem d1_35 : decode method_2_code 35 = .ok (.lushr, 1) := by decide +kernel
theorem d1_36 : decode method_2_code 36 = .ok (.l2i, 1) := by decide +kernel
theorem d1_37 : decode method_2_code 37 = .ok (.i2b, 1) := by decide +kernel
theorem d1_38 : decode method_2_code 38 = .ok (.bastore, 1) := by decide +kernel
theorem d1_39 : decode method_2_code 39 = .ok (.aload_n 0, 1) := by decide +kernel
theorem d1_40 : decode method_2_code 40 = .ok (.iload_n 1, 1) := by decide +kernel
theorem d1_41 : decode method_2_code 41 = .ok (.iconst 4, 1) := by decide +kernel
theorem d1_42 : decode method_2_code 42 = .ok (.iadd, 1) := by decide +kernel
theorem d1_43 : decode method_2_code 43 = .ok (.lload_n 2, 1) := by decide +kernel
theorem d1_44 : decode method_2_code 44 = .ok (.bipush 32, 2) := by decide +kernel
theorem d1_46 : decode method_2_code 46 = .ok (.lushr, 1) := by decide +kernel
theorem d1_47 : decode method_2_code 47 = .ok (.l2i, 1) := by decide +kernel
theorem d1_48 : decode method_2_code 48 = .ok (.i2b, 1) := by decide +kernel
theorem d1_49 : decode method_2_code 49 = .ok (.bastore, 1) := by decide +kernel
theorem d1_50 : decode method_2_code 50 = .ok (.aload_n 0, 1) := by decide +kernel
theorem d1_51 : decode method_2_code 51 = .ok (.iload_n 1, 1) := by decide +kernel
theorem d1_52 : decode method_2_code 52 = .ok (.iconst 5, 1) := by decide +kernel
theorem d1_53 : decode method_2_code 53 = .ok (.iadd, 1) := by decide +kernel
theorem d1_54 : decode method_2_code 54 = .ok (.lload_n 2, 1) := by decide +kernel
theorem d1_55 : decode method_2_code 55 = .ok (.bipush 40, 2) := by decide +kernel
theorem d1_57 : decode method_2_code 57 = .ok (.lushr, 1) := by decide +kernel
theorem d1_58 : decode method_2_code 58 = .ok (.l2i, 1) := by decide +kernel
theorem d1_59 : decode method_2_code 59 = .ok (.i2b, 1) := by decide +kernel
theorem d1_60 : decode method_2_code 60 = .ok (.bastore, 1) := by decide +kernel
theorem d1_61 : decode method_2_code 61 = .ok (.aload_n 0, 1) := by decide +kernel
theorem d1_62 : decode method_2_code 62 = .ok (.iload_n 1, 1) := by decide +kernel
theorem d1_63 : decode method_2_code 63 = .ok (.bipush 6, 2) := by decide +kernel
theorem d1_65 : decode method_2_code 65 = .ok (.iadd, 1) := by decide +kernel
theorem d1_66 : decode method_2_code 66 = .ok (.lload_n 2, 1) := by decide +kernel
theorem d1_67 : decode method_2_code 67 = .ok (.bipush 48, 2) := by decide +kernel
theorem d1_69 : decode method_2_code 69 = .ok (.lushr, 1) := by decide +kernel
theorem d1_70 : decode method_2_code 70 = .ok (.l2i, 1) := by decide +kernel
theorem d1_71 : decode method_2_code 71 = .ok (.i2b, 1) := by decide +kernel
theorem d1_72 : decode method_2_code 72 = .ok (.bastore, 1) := by decide +kernel
theorem d1_73 : decode method_2_code 73 = .ok (.aload_n 0, 1) := by decide +kernel
theorem d1_74 : decode method_2_code 74 = .ok (.iload_n 1, 1) := by decide +kernel
theorem d1_75 : decode method_2_code 75 = .ok (.bipush 7, 2) := by decide +kernel
theorem d1_77 : decode method_2_code 77 = .ok (.iadd, 1) := by decide +kernel
theorem d1_78 : decode method_2_code 78 = .ok (.lload_n 2, 1) := by decide +kernel
theorem d1_79 : decode method_2_code 79 = .ok (.bipush 56, 2) := by decide +kernel
theorem d1_81 : decode method_2_code 81 = .ok (.lushr, 1) := by decide +kernel
theorem d1_82 : decode method_2_code 82 = .ok (.l2i, 1) := by decide +kernel
theorem d1_83 : decode method_2_code 83 = .ok (.i2b, 1) := by decide +kernel
theorem d1_84 : decode method_2_code 84 = .ok (.bastore, 1) := by decide +kernel
theorem d1_85 : decode method_2_code 85 = .ok (.return_, 1) := by decide +kernel
theorem pn_1 : plainName "com/example/plain_audit/plainaudit/trail/Field25519FromBytesPinLaw" = true := by first | (simp [plainName, overriddenIn]; done) | decide +kernel
theorem rm1_ef (m : MethodId) (a : Addr) (p1 : Int32) (w1 : Int64) : entryFrame m #[(.ref a), (.int p1), (.long w1)] 4 = mkF m 0 #[.val (.ref a), .val (.int p1), .val (.long w1), .second] [] := by first | (simp [entryFrame, mkF, argsToLocals, Value.category]; done) | rfl
abbrev rm1_Q (Z : State) (a : Addr) (p1 : Int32) (w1 : Int64) (f : Nat → Value) (pp : Nat) (h0 : Heap) (n0 : Nat) : Option Value → Heap → Prop := fun v h => v = none ∧ Keep h0 h [a] ∧ AF Z h a .byte 36 (own_f f pp w1)
set_option maxRecDepth 65536 in
set_option maxHeartbeats 40000000 in
theorem rm1 (l : Launch) (Z : State) (a0 : Array Value) (hw : ∀ d ∈ tables_1, d.before a0 Z = true) (ws : List Jvm.Cond) (a : Addr) (p1 : Int32) (w1 : Int64) (f : Nat → Value) (pp : Nat) (h : Heap) (n0 : Nat) (hn0 : n0 ≤ h.size) (A1 : AF Z h a .byte 36 f) (hp1 : p1 = Int32.ofNat pp) (hpp : pp + 8 ≤ 36) (g0 : n0 ≤ a) :
    Ct l Z (⟨"com/example/plain_audit/plainaudit/trail/Field25519FromBytesPinLaw", "put", "([BIJ)V"⟩ : MethodName) method_2_code 4 none ws ({ frames := 0, cells := 0, slots := 0, locals := 0 } : Room) #[(.ref a), (.int p1), (.long w1)] h n0 (rm1_Q Z a p1 w1 f pp h n0) := by
  refine Ct.of (plainFor_of_name pn_1) hn0 (fun m => rm1_ef m a p1 w1) ?_
  intro p e s m below meth c T0 X0
  replace X0 : Sn Z n0 method_2_code 4 "com/example/plain_audit/plainaudit/trail/Field25519FromBytesPinLaw" "put" none p l e ({ frames := 0, cells := 0, slots := 0, locals := 0 } : Room) s m #[(.ref a), (.int p1), (.long w1)] below meth c T0 h 0 0 := X0
  subst hp1
  have K0 := Keep.refl h [a]
  refine w_aloadN (pc' := 1) X0 d1_0 rfl rfl rfl ?_
  refine w_iloadN (pc' := 2) X0 d1_1 rfl rfl ?_
  refine w_lloadN (pc' := 3) X0 d1_2 rfl rfl ?_
  refine w_l2i (pc' := 4) X0 d1_3 rfl ?_
  refine w_i2b (pc' := 5) X0 d1_4 rfl ?_
  refine w_bastoreB (pc' := 6) (i := pp) X0 A1 d1_5 (own_i (by omega)) (by omega) rfl g0 (fun T1 h1 X1 W1 => ?_)
  have F1 := A1.set W1
  have K1 := K0.wr W1 (Or.inl (List.mem_of_getElem? (i := 0) rfl))
  refine w_aloadN (pc' := 7) X1 d1_6 rfl rfl rfl ?_
  refine w_iloadN (pc' := 8) X1 d1_7 rfl rfl ?_
  refine w_iconst (pc' := 9) (z := (1 : Int32)) X1 d1_8 rfl rfl ?_
  refine w_iadd (pc' := 10) X1 d1_9 rfl ?_
  refine w_lloadN (pc' := 11) X1 d1_10 rfl rfl ?_
  refine w_bipush (pc' := 13) (z := (8 : Int32)) X1 d1_11 rfl rfl ?_
  refine w_lushr (pc' := 14) X1 d1_13 rfl ?_
  refine w_l2i (pc' := 15) X1 d1_14 rfl ?_
  refine w_i2b (pc' := 16) X1 d1_15 rfl ?_
  refine w_bastoreB (pc' := 17) (i := (pp + 1)) X1 F1 d1_16 (own_addI (j := 1) (by omega)) (by omega) rfl g0 (fun T2 h2 X2 W2 => ?_)
  have F2 := F1.set W2
  have K2 := K1.wr W2 (Or.inl (List.mem_of_getElem? (i := 0) rfl))
  refine w_aloadN (pc' := 18) X2 d1_17 rfl rfl rfl ?_
  refine w_iloadN (pc' := 19) X2 d1_18 rfl rfl ?_
  refine w_iconst (pc' := 20) (z := (2 : Int32)) X2 d1_19 rfl rfl ?_
  refine w_iadd (pc' := 21) X2 d1_20 rfl ?_
  refine w_lloadN (pc' := 22) X2 d1_21 rfl rfl ?_
  refine w_bipush (pc' := 24) (z := (16 : Int32)) X2 d1_22 rfl rfl ?_
  refine w_lushr (pc' := 25) X2 d1_24 rfl ?_
  refine w_l2i (pc' := 26) X2 d1_25 rfl ?_
  refine w_i2b (pc' := 27) X2 d1_26 rfl ?_
  refine w_bastoreB (pc' := 28) (i := (pp + 2)) X2 F2 d1_27 (own_addI (j := 2) (by omega)) (by omega) rfl g0 (fun T3 h3 X3 W3 => ?_)
  have F3 := F2.set W3
  have K3 := K2.wr W3 (Or.inl (List.mem_of_getElem? (i := 0) rfl))
  refine w_aloadN (pc' := 29) X3 d1_28 rfl rfl rfl ?_
  refine w_iloadN (pc' := 30) X3 d1_29 rfl rfl ?_
  refine w_iconst (pc' := 31) (z := (3 : Int32)) X3 d1_30 rfl rfl ?_
  refine w_iadd (pc' := 32) X3 d1_31 rfl ?_
  refine w_lloadN (pc' := 33) X3 d1_32 rfl rfl ?_
  refine w_bipush (pc' := 35) (z := (24 : Int32)) X3 d1_33 rfl rfl ?_
  refine w_lushr (pc' := 36) X3 d1_35 rfl ?_
  refine w_l2i (pc' := 37) X3 d1_36 rfl ?_
  refine w_i2b (pc' := 38) X3 d1_37 rfl ?_
  refine w_bastoreB (pc' := 39) (i := (pp + 3)) X3 F3 d1_38 (own_addI (j := 3) (by omega)) (by omega) rfl g0 (fun T4 h4 X4 W4 => ?_)
  have F4 := F3.set W4
  have K4 := K3.wr W4 (Or.inl (List.mem_of_getElem? (i := 0) rfl))
  refine w_aloadN (pc' := 40) X4 d1_39 rfl rfl rfl ?_
  refine w_iloadN (pc' := 41) X4 d1_40 rfl rfl ?_
  refine w_iconst (pc' := 42) (z := (4 : Int32)) X4 d1_41 rfl rfl ?_
  refine w_iadd (pc' := 43) X4 d1_42 rfl ?_
  refine w_lloadN (pc' := 44) X4 d1_43 rfl rfl ?_
  refine w_bipush (pc' := 46) (z := (32 : Int32)) X4 d1_44 rfl rfl ?_
  refine w_lushr (pc' := 47) X4 d1_46 rfl ?_
  refine w_l2i (pc' := 48) X4 d1_47 rfl ?_
  refine w_i2b (pc' := 49) X4 d1_48 rfl ?_
  refine w_bastoreB (pc' := 50) (i := (pp + 4)) X4 F4 d1_49 (own_addI (j := 4) (by omega)) (by omega) rfl g0 (fun T5 h5 X5 W5 => ?_)
  have F5 := F4.set W5
  have K5 := K4.wr W5 (Or.inl (List.mem_of_getElem? (i := 0) rfl))
  refine w_aloadN (pc' := 51) X5 d1_50 rfl rfl rfl ?_
  refine w_iloadN (pc' := 52) X5 d1_51 rfl rfl ?_
  refine w_iconst (pc' := 53) (z := (5 : Int32)) X5 d1_52 rfl rfl ?_
  refine w_iadd (pc' := 54) X5 d1_53 rfl ?_
  refine w_lloadN (pc' := 55) X5 d1_54 rfl rfl ?_
  refine w_bipush (pc' := 57) (z := (40 : Int32)) X5 d1_55 rfl rfl ?_
  refine w_lushr (pc' := 58) X5 d1_57 rfl ?_
  refine w_l2i (pc' := 59) X5 d1_58 rfl ?_
  refine w_i2b (pc' := 60) X5 d1_59 rfl ?_
  refine w_bastoreB (pc' := 61) (i := (pp + 5)) X5 F5 d1_60 (own_addI (j := 5) (by omega)) (by omega) rfl g0 (fun T6 h6 X6 W6 => ?_)
  have F6 := F5.set W6
  have K6 := K5.wr W6 (Or.inl (List.mem_of_getElem? (i := 0) rfl))
  refine w_aloadN (pc' := 62) X6 d1_61 rfl rfl rfl ?_
  refine w_iloadN (pc' := 63) X6 d1_62 rfl rfl ?_
  refine w_bipush (pc' := 65) (z := (6 : Int32)) X6 d1_63 rfl rfl ?_
  refine w_iadd (pc' := 66) X6 d1_65 rfl ?_
  refine w_lloadN (pc' := 67) X6 d1_66 rfl rfl ?_
  refine w_bipush (pc' := 69) (z := (48 : Int32)) X6 d1_67 rfl rfl ?_
  refine w_lushr (pc' := 70) X6 d1_69 rfl ?_
  refine w_l2i (pc' := 71) X6 d1_70 rfl ?_
  refine w_i2b (pc' := 72) X6 d1_71 rfl ?_
  refine w_bastoreB (pc' := 73) (i := (pp + 6)) X6 F6 d1_72 (own_addI (j := 6) (by omega)) (by omega) rfl g0 (fun T7 h7 X7 W7 => ?_)
  have F7 := F6.set W7
  have K7 := K6.wr W7 (Or.inl (List.mem_of_getElem? (i := 0) rfl))
  refine w_aloadN (pc' := 74) X7 d1_73 rfl rfl rfl ?_
  refine w_iloadN (pc' := 75) X7 d1_74 rfl rfl ?_
  refine w_bipush (pc' := 77) (z := (7 : Int32)) X7 d1_75 rfl rfl ?_
  refine w_iadd (pc' := 78) X7 d1_77 rfl ?_
  refine w_lloadN (pc' := 79) X7 d1_78 rfl rfl ?_
  refine w_bipush (pc' := 81) (z := (56 : Int32)) X7 d1_79 rfl rfl ?_
  refine w_lushr (pc' := 82) X7 d1_81 rfl ?_
  refine w_l2i (pc' := 83) X7 d1_82 rfl ?_
  refine w_i2b (pc' := 84) X7 d1_83 rfl ?_
  refine w_bastoreB (pc' := 85) (i := (pp + 7)) X7 F7 d1_84 (own_addI (j := 7) (by omega)) (by omega) rfl g0 (fun T8 h8 X8 W8 => ?_)
  have F8 := F7.set W8
  have K8 := K7.wr W8 (Or.inl (List.mem_of_getElem? (i := 0) rfl))
  exact w_return X8 d1_85 rfl (⟨rfl, K8, F8.congr fun j _ => own_put f pp w1 j⟩)
theorem d2_0 : decode prog_37_method_3_code 0 = .ok (.bipush 10, 2) := by decide +kernel
theorem d2_2 : decode prog_37_method_3_code 2 = .ok (.newarray .long, 2) := by decide +kernel
theorem d2_4 : decode prog_37_method_3_code 4 = .ok (.astore_n 2, 1) := by decide +kernel
theorem d2_5 : decode prog_37_method_3_code 5 = .ok (.iconst 0, 1) := by decide +kernel
theorem d2_6 : decode prog_37_method_3_code 6 = .ok (.istore_n 3, 1) := by decide +kernel
theorem d2_7 : decode prog_37_method_3_code 7 = .ok (.iload_n 3, 1) := by decide +kernel
theorem d2_8 : decode prog_37_method_3_code 8 = .ok (.sipush 255, 3) := by decide +kernel
theorem d2_11 : decode prog_37_method_3_code 11 = .ok (.if_icmp .ge 42, 3) := by decide +kernel
theorem d2_14 : decode prog_37_method_3_code 14 = .ok (.aload_n 0, 1) := by decide +kernel
theorem d2_15 : decode prog_37_method_3_code 15 = .ok (.iload_n 1, 1) := by decide +kernel
theorem d2_16 : decode prog_37_method_3_code 16 = .ok (.iload_n 3, 1) := by decide +kernel
theorem d2_17 : decode prog_37_method_3_code 17 = .ok (.bipush 8, 2) := by decide +kernel
theorem d2_19 : decode prog_37_method_3_code 19 = .ok (.idiv, 1) := by decide +kernel
theorem d2_20 : decode prog_37_method_3_code 20 = .ok (.iadd, 1) := by decide +kernel
theorem d2_21 : decode prog_37_method_3_code 21 = .ok (.baload, 1) := by decide +kernel
theorem d2_22 : decode prog_37_method_3_code 22 = .ok (.iload_n 3, 1) := by decide +kernel
theorem d2_23 : decode prog_37_method_3_code 23 = .ok (.bipush 8, 2) := by decide +kernel
theorem d2_25 : decode prog_37_method_3_code 25 = .ok (.irem, 1) := by decide +kernel
theorem d2_26 : decode prog_37_method_3_code 26 = .ok (.ishr, 1) := by decide +kernel
theorem d2_27 : decode prog_37_method_3_code 27 = .ok (.iconst 1, 1) := by decide +kernel
theorem d2_28 : decode prog_37_method_3_code 28 = .ok (.iand, 1) := by decide +kernel
theorem d2_29 : decode prog_37_method_3_code 29 = .ok (.ifCond .eq 18, 3) := by decide +kernel
theorem d2_32 : decode prog_37_method_3_code 32 = .ok (.aload_n 2, 1) := by decide +kernel
theorem d2_33 : decode prog_37_method_3_code 33 = .ok (.iload_n 3, 1) := by decide +kernel
theorem d2_34 : decode prog_37_method_3_code 34 = .ok (.bipush 26, 2) := by decide +kernel
theorem d2_36 : decode prog_37_method_3_code 36 = .ok (.idiv, 1) := by decide +kernel
theorem d2_37 : decode prog_37_method_3_code 37 = .ok (.dup2, 1) := by decide +kernel
theorem d2_38 : decode prog_37_method_3_code 38 = .ok (.laload, 1) := by decide +kernel
theorem d2_39 : decode prog_37_method_3_code 39 = .ok (.lconst 1, 1) := by decide +kernel
theorem d2_40 : decode prog_37_method_3_code 40 = .ok (.iload_n 3, 1) := by decide +kernel
theorem d2_41 : decode prog_37_method_3_code 41 = .ok (.bipush 26, 2) := by decide +kernel
theorem d2_43 : decode prog_37_method_3_code 43 = .ok (.irem, 1) := by decide +kernel
theorem d2_44 : decode prog_37_method_3_code 44 = .ok (.lshl, 1) := by decide +kernel
theorem d2_45 : decode prog_37_method_3_code 45 = .ok (.lor, 1) := by decide +kernel
theorem d2_46 : decode prog_37_method_3_code 46 = .ok (.lastore, 1) := by decide +kernel
theorem d2_47 : decode prog_37_method_3_code 47 = .ok (.iinc 3 1, 3) := by decide +kernel
theorem d2_50 : decode prog_37_method_3_code 50 = .ok (.goto (-43), 3) := by decide +kernel
theorem d2_53 : decode prog_37_method_3_code 53 = .ok (.aload_n 2, 1) := by decide +kernel
theorem d2_54 : decode prog_37_method_3_code 54 = .ok (.areturn, 1) := by decide +kernel
theorem pn_2 : plainName "com/example/plain_audit/plainaudit/trail/Field25519" = true := by first | (simp [plainName, overriddenIn]; done) | decide +kernel
theorem rm2_ef (m : MethodId) (a : Addr) (o1 : Int32) : entryFrame m #[(.ref a), (.int o1)] 4 = mkF m 0 #[.val (.ref a), .val (.int o1), .unset, .unset] [] := by first | (simp [entryFrame, mkF, argsToLocals, Value.category]; done) | rfl
abbrev rm2_Q (Z : State) (a : Addr) (o1 : Int32) (f : Nat → Value) (ov : Nat) (bb : Nat → Int32) (h0 : Heap) (n0 : Nat) : Option Value → Heap → Prop := fun v h => ∃ b, v = some (.ref b) ∧ Keep h0 h [] ∧ AF Z h b .long 10 (fun j => .long (own_r bb 255 j))
set_option maxRecDepth 65536 in
set_option maxHeartbeats 40000000 in
theorem rm2 (l : Launch) (Z : State) (a0 : Array Value) (hw : ∀ d ∈ tables_1, d.before a0 Z = true) (ws : List Jvm.Cond) (a : Addr) (o1 : Int32) (f : Nat → Value) (ov : Nat) (bb : Nat → Int32) (h : Heap) (n0 : Nat) (hn0 : n0 ≤ h.size) (A1 : AF Z h a .byte 36 f) (ho1 : o1 = Int32.ofNat ov) (hov : ov ≤ 3) (hf : ∀ i, i < 32 → f (ov + i) = .int (bb i)) :
    Ct l Z (⟨"com/example/plain_audit/plainaudit/trail/Field25519", "fromBytes", "([BI)[J"⟩ : MethodName) prog_37_method_3_code 4 (some (.array .long)) ws ({ frames := 0, cells := 1, slots := 10, locals := 0 } : Room) #[(.ref a), (.int o1)] h n0 (rm2_Q Z a o1 f ov bb h n0) := by
  refine Ct.of (plainFor_of_name pn_2) hn0 (fun m => rm2_ef m a o1) ?_
  intro p e s m below meth c T0 X0
  replace X0 : Sn Z n0 prog_37_method_3_code 4 "com/example/plain_audit/plainaudit/trail/Field25519" "fromBytes" (some (.array .long)) p l e ({ frames := 0, cells := 1, slots := 10, locals := 0 } : Room) s m #[(.ref a), (.int o1)] below meth c T0 h 0 0 := X0
  subst ho1
  have K0 := Keep.refl h []
  refine w_bipush (pc' := 2) (z := (10 : Int32)) X0 d2_0 rfl rfl ?_
  refine w_newarray (pc' := 4) (n := 10) (cap := 10) X0 d2_2 (hw _ (List.mem_of_getElem? (i := 9) rfl)) rfl (by decide) (by decide) (fun T1 h1 b1 X1 E1 q1 g1 F1 => ?_)
  have ne2 : a ≠ b1 := ne_size q1 A1.lt
  have F3 := A1.ext E1
  have K4 := K0.ext E1
  have kp1 : h.size ≤ b1 := Nat.le_trans K0.1 (Nat.le_of_eq q1.symm)
  have L7 : ∀ (k i : Nat) (T : State) (hh : Heap), i + k = 255 → Sn Z n0 prog_37_method_3_code 4 "com/example/plain_audit/plainaudit/trail/Field25519" "fromBytes" (some (.array .long)) p l e ({ frames := 0, cells := 1, slots := 10, locals := 0 } : Room) s m #[(.ref a), (.int (Int32.ofNat ov))] below meth c T hh 1 10 → Keep h hh [] → AF Z hh a .byte 36 f → AF Z hh b1 .long 10 (fun j => .long (own_r bb i j)) → W p e below s ({ frames := 0, cells := 1, slots := 10, locals := 0 } : Room) n0 (rm2_Q Z a (Int32.ofNat ov) f ov bb h n0) (T.setTop (mkF m 7 #[.val (.ref a), .val (.int (Int32.ofNat ov)), .val (.ref b1), .val (.int (Int32.ofNat i))] [])) := by
    intro k
    induction k with
    | zero =>
      intro i T hh hi X Kh Fa Fb
      have ei : (Int32.ofNat i).toInt = i := own_i (by omega)
      refine w_iloadN (pc' := 8) X d2_7 rfl rfl ?_
      refine w_sipush (pc' := 11) (z := (255 : Int32)) X d2_8 rfl rfl ?_
      refine w_icmp_ge (pc1 := 53) (pc2 := 14) X d2_11 (by decide) (fun (hc11 : (Int32.ofNat i).toInt ≥ (255 : Int)) => ?_) (fun (hc11 : (Int32.ofNat i).toInt < (255 : Int)) => by omega)
      refine w_aloadN (pc' := 54) X d2_53 rfl rfl rfl ?_
      obtain rfl : i = 255 := by omega
      exact w_areturn (t := (.array .long)) X d2_54 rfl rfl rfl rfl (⟨b1, rfl, Kh, Fb⟩)
    | succ k ih =>
      intro i T hh hi X Kh Fa Fb
      have ei : (Int32.ofNat i).toInt = i := own_i (by omega)
      refine w_iloadN (pc' := 8) X d2_7 rfl rfl ?_
      refine w_sipush (pc' := 11) (z := (255 : Int32)) X d2_8 rfl rfl ?_
      refine w_icmp_ge (pc1 := 53) (pc2 := 14) X d2_11 (by decide) (fun (hc11 : (Int32.ofNat i).toInt ≥ (255 : Int)) => by omega) (fun (hc11 : (Int32.ofNat i).toInt < (255 : Int)) => ?_)
      refine w_aloadN (pc' := 15) X d2_14 rfl rfl rfl ?_
      refine w_iloadN (pc' := 16) X d2_15 rfl rfl ?_
      refine w_iloadN (pc' := 17) X d2_16 rfl rfl ?_
      refine w_bipush (pc' := 19) (z := (8 : Int32)) X d2_17 rfl rfl ?_
      refine w_idiv (pc' := 20) X d2_19 (by decide) rfl ?_
      refine w_topI (x' := (Int32.ofNat (i / 8))) (own_div (by omega) 8 rfl (by decide)) ?_
      refine w_iadd (pc' := 21) X d2_20 rfl ?_
      refine w_baloadB (pc' := 22) (i := (ov + i / 8)) (v := (.int (bb (i / 8)))) X Fa d2_21 (own_addI (by omega)) (by omega) (hf (i / 8) (by omega)) rfl ?_
      refine w_iloadN (pc' := 23) X d2_22 rfl rfl ?_
      refine w_bipush (pc' := 25) (z := (8 : Int32)) X d2_23 rfl rfl ?_
      refine w_irem (pc' := 26) X d2_25 (by decide) rfl ?_
      refine w_topI (x' := (Int32.ofNat (i % 8))) (own_mod (by omega) 8 rfl) ?_
      refine w_ishr (pc' := 27) X d2_26 rfl ?_
      refine w_iconst (pc' := 28) (z := (1 : Int32)) X d2_27 rfl rfl ?_
      refine w_iand (pc' := 29) X d2_28 rfl ?_
      refine w_if_eq (pc1 := 47) (pc2 := 32) X d2_29 (by decide) (fun (hc29 : ((isr (bb (i / 8)) (Int32.ofNat (i % 8))) &&& (1 : Int32)) = (0 : Int32)) => ?_) (fun (hc29 : ((isr (bb (i / 8)) (Int32.ofNat (i % 8))) &&& (1 : Int32)) ≠ (0 : Int32)) => ?_)
      · refine w_iinc (pc' := 50) (z := (Int32.ofNat (i + 1))) (L' := #[.val (.ref a), .val (.int (Int32.ofNat ov)), .val (.ref b1), .val (.int (Int32.ofNat (i + 1)))]) X d2_47 rfl (own_addn i 1) rfl rfl ?_
        refine w_goto (pc' := 7) X d2_50 (by decide) ?_
        exact ih (i + 1) _ _ (by omega) X Kh Fa (Fb.congr fun j _ => own_r0 (fun q => q hc29) j)
      · refine w_aloadN (pc' := 33) X d2_32 rfl rfl rfl ?_
        refine w_iloadN (pc' := 34) X d2_33 rfl rfl ?_
        refine w_bipush (pc' := 36) (z := (26 : Int32)) X d2_34 rfl rfl ?_
        refine w_idiv (pc' := 37) X d2_36 (by decide) rfl ?_
        refine w_topI (x' := (Int32.ofNat (i / 26))) (own_div (by omega) 26 rfl (by decide)) ?_
        refine w_dup2 (pc' := 38) X d2_37 rfl rfl rfl ?_
        refine w_laload (pc' := 39) (i := (i / 26)) (v := (.long (own_r bb i (i / 26)))) X Fb d2_38 (own_i (by omega)) (by omega) rfl rfl ?_
        refine w_lconst (pc' := 40) (z := (1 : Int64)) X d2_39 rfl rfl ?_
        refine w_iloadN (pc' := 41) X d2_40 rfl rfl ?_
        refine w_bipush (pc' := 43) (z := (26 : Int32)) X d2_41 rfl rfl ?_
        refine w_irem (pc' := 44) X d2_43 (by decide) rfl ?_
        refine w_topI (x' := (Int32.ofNat (i % 26))) (own_mod (by omega) 26 rfl) ?_
        refine w_lshl (pc' := 45) X d2_44 rfl ?_
        refine w_lor (pc' := 46) X d2_45 rfl ?_
        refine w_lastore (pc' := 47) (i := (i / 26)) X Fb d2_46 (own_i (by omega)) (by omega) rfl g1 (fun T5 h5 X5 W5 => ?_)
        have F6 := Fa.other W5 ne2
        have F5 := Fb.set W5
        have K5 := Kh.wr W5 (Or.inr kp1)
        refine w_iinc (pc' := 50) (z := (Int32.ofNat (i + 1))) (L' := #[.val (.ref a), .val (.int (Int32.ofNat ov)), .val (.ref b1), .val (.int (Int32.ofNat (i + 1)))]) X5 d2_47 rfl (own_addn i 1) rfl rfl ?_
        refine w_goto (pc' := 7) X5 d2_50 (by decide) ?_
        exact ih (i + 1) _ _ (by omega) X5 K5 F6 (F5.congr fun j _ => own_r1 hc29 j)
  refine w_astoreN (pc' := 5) (L' := #[.val (.ref a), .val (.int (Int32.ofNat ov)), .val (.ref b1), .unset]) X1 d2_4 rfl rfl rfl ?_
  refine w_iconst (pc' := 6) (z := (0 : Int32)) X1 d2_5 rfl rfl ?_
  refine w_istoreN (pc' := 7) (L' := #[.val (.ref a), .val (.int (Int32.ofNat ov)), .val (.ref b1), .val (.int (0 : Int32))]) X1 d2_6 rfl rfl ?_
  exact L7 255 0 _ _ (by omega) X1 K4 F3 (F1.congr fun j _ => rfl)
theorem pd_118 : parseMethodDescriptor "([BIJ)V" = some ⟨[(.array .byte), .int, .long], none⟩ := by decide +kernel
theorem pd_119 : parseMethodDescriptor "([BI)[J" = some ⟨[(.array .byte), .int], some (.array .long)⟩ := by decide +kernel
theorem rm0_ef (m : MethodId) (w0 : Int64) (w1 : Int64) (w2 : Int64) (w3 : Int64) (of : Int32) (fl : Int32) : entryFrame m #[(.long w0), (.long w1), (.long w2), (.long w3), (.int of), (.int fl)] 14 = mkF m 0 #[.val (.long w0), .second, .val (.long w1), .second, .val (.long w2), .second, .val (.long w3), .second, .val (.int of), .val (.int fl), .unset, .unset, .unset, .unset] [] := by first | (simp [entryFrame, mkF, argsToLocals, Value.category]; done) | rfl
abbrev rm0_Q (Z : State) (w0 : Int64) (w1 : Int64) (w2 : Int64) (w3 : Int64) (of : Int32) (fl : Int32) (h0 : Heap) (n0 : Nat) : Option Value → Heap → Prop := fun v h => v = some (.int 1)
set_option maxRecDepth 65536 in
set_option maxHeartbeats 40000000 in
theorem rm0 (l : Launch) (Z : State) (a0 : Array Value) (hw : ∀ d ∈ tables_1, d.before a0 Z = true) (ws : List Jvm.Cond) (w0 : Int64) (w1 : Int64) (w2 : Int64) (w3 : Int64) (of : Int32) (fl : Int32) (h : Heap) (n0 : Nat) (hn0 : n0 ≤ h.size) :
    Ct l Z x code maxLocals ret ws room_1 #[(.long w0), (.long w1), (.long w2), (.long w3), (.int of), (.int fl)] h n0 (rm0_Q Z w0 w1 w2 w3 of fl h n0) := by
  refine Ct.of (plainFor_of_name pn_1) hn0 (fun m => rm0_ef m w0 w1 w2 w3 of fl) ?_
  intro p e s m below meth c T0 X0
  replace X0 : Sn Z n0 code 14 "com/example/plain_audit/plainaudit/trail/Field25519FromBytesPinLaw" "law" (some .boolean) p l e room_1 s m #[(.long w0), (.long w1), (.long w2), (.long w3), (.int of), (.int fl)] below meth c T0 h 0 0 := X0
  refine w_iload (pc' := 2) X0 at_0 rfl rfl ?_
  refine w_iconst (pc' := 3) (z := (3 : Int32)) X0 at_2 rfl rfl ?_
  refine w_iand (pc' := 4) X0 at_3 rfl ?_
  obtain ⟨ov, eov, hov⟩ := own_off of
  refine w_topI (x' := (Int32.ofNat ov)) (eov) ?_
  refine w_istore (pc' := 6) (L' := #[.val (.long w0), .second, .val (.long w1), .second, .val (.long w2), .second, .val (.long w3), .second, .val (.int of), .val (.int fl), .val (.int (Int32.ofNat ov)), .unset, .unset, .unset]) X0 at_4 rfl rfl ?_
  refine w_iload (pc' := 8) X0 at_6 rfl rfl ?_
  refine w_i2b (pc' := 9) X0 at_8 rfl ?_
  obtain ⟨fv, hfv⟩ : ∃ z : Int32, z = fl.toInt8.toInt32 := ⟨_, rfl⟩
  refine w_topI hfv.symm ?_
  refine w_istore (pc' := 11) (L' := #[.val (.long w0), .second, .val (.long w1), .second, .val (.long w2), .second, .val (.long w3), .second, .val (.int of), .val (.int fl), .val (.int (Int32.ofNat ov)), .val (.int fv), .unset, .unset]) X0 at_9 rfl rfl ?_
  refine w_bipush (pc' := 13) (z := (36 : Int32)) X0 at_11 rfl rfl ?_
  refine w_newarray (pc' := 15) (n := 36) (cap := 36) X0 at_13 (hw _ (List.mem_of_getElem? (i := 0) rfl)) rfl (by decide) (by decide) (fun T1 h1 b1 X1 E1 q1 g1 F1 => ?_)
  refine w_astore (pc' := 17) (L' := #[.val (.long w0), .second, .val (.long w1), .second, .val (.long w2), .second, .val (.long w3), .second, .val (.int of), .val (.int fl), .val (.int (Int32.ofNat ov)), .val (.int fv), .val (.ref b1), .unset]) X1 at_15 rfl rfl rfl ?_
  refine w_aload (pc' := 19) X1 at_17 rfl rfl rfl ?_
  refine w_iconst (pc' := 20) (z := (0 : Int32)) X1 at_19 rfl rfl ?_
  refine w_iload (pc' := 22) X1 at_20 rfl rfl ?_
  refine w_bastoreB (pc' := 23) (i := 0) X1 F1 at_22 rfl (by decide) rfl g1 (fun T2 h2 X2 W2 => ?_)
  have F2 := F1.set W2
  refine w_aload (pc' := 25) X2 at_23 rfl rfl rfl ?_
  refine w_iconst (pc' := 26) (z := (1 : Int32)) X2 at_25 rfl rfl ?_
  refine w_iload (pc' := 28) X2 at_26 rfl rfl ?_
  refine w_bastoreB (pc' := 29) (i := 1) X2 F2 at_28 rfl (by decide) rfl g1 (fun T3 h3 X3 W3 => ?_)
  have F3 := F2.set W3
  refine w_aload (pc' := 31) X3 at_29 rfl rfl rfl ?_
  refine w_iconst (pc' := 32) (z := (2 : Int32)) X3 at_31 rfl rfl ?_
  refine w_iload (pc' := 34) X3 at_32 rfl rfl ?_
  refine w_bastoreB (pc' := 35) (i := 2) X3 F3 at_34 rfl (by decide) rfl g1 (fun T4 h4 X4 W4 => ?_)
  have F4 := F3.set W4
  refine w_aload (pc' := 37) X4 at_35 rfl rfl rfl ?_
  refine w_iconst (pc' := 38) (z := (3 : Int32)) X4 at_37 rfl rfl ?_
  refine w_iload (pc' := 40) X4 at_38 rfl rfl ?_
  refine w_bastoreB (pc' := 41) (i := 3) X4 F4 at_40 rfl (by decide) rfl g1 (fun T5 h5 X5 W5 => ?_)
  have F5 := F4.set W5
  refine w_aload (pc' := 43) X5 at_41 rfl rfl rfl ?_
  refine w_bipush (pc' := 45) (z := (32 : Int32)) X5 at_43 rfl rfl ?_
  refine w_iload (pc' := 47) X5 at_45 rfl rfl ?_
  refine w_bastoreB (pc' := 48) (i := 32) X5 F5 at_47 rfl (by decide) rfl g1 (fun T6 h6 X6 W6 => ?_)
  have F6 := F5.set W6
  refine w_aload (pc' := 50) X6 at_48 rfl rfl rfl ?_
  refine w_bipush (pc' := 52) (z := (33 : Int32)) X6 at_50 rfl rfl ?_
  refine w_iload (pc' := 54) X6 at_52 rfl rfl ?_
  refine w_bastoreB (pc' := 55) (i := 33) X6 F6 at_54 rfl (by decide) rfl g1 (fun T7 h7 X7 W7 => ?_)
  have F7 := F6.set W7
  refine w_aload (pc' := 57) X7 at_55 rfl rfl rfl ?_
  refine w_bipush (pc' := 59) (z := (34 : Int32)) X7 at_57 rfl rfl ?_
  refine w_iload (pc' := 61) X7 at_59 rfl rfl ?_
  refine w_bastoreB (pc' := 62) (i := 34) X7 F7 at_61 rfl (by decide) rfl g1 (fun T8 h8 X8 W8 => ?_)
  have F8 := F7.set W8
  refine w_aload (pc' := 64) X8 at_62 rfl rfl rfl ?_
  refine w_bipush (pc' := 66) (z := (35 : Int32)) X8 at_64 rfl rfl ?_
  refine w_iload (pc' := 68) X8 at_66 rfl rfl ?_
  refine w_bastoreB (pc' := 69) (i := 35) X8 F8 at_68 rfl (by decide) rfl g1 (fun T9 h9 X9 W9 => ?_)
  have F9 := F8.set W9
  obtain ⟨bas, hbas⟩ : ∃ f : Nat → Value, f = (up (up (up (up (up (up (up (up (fun _ => (.int (0 : Int32))) 0 (.int fv.toInt8.toInt32)) 1 (.int fv.toInt8.toInt32)) 2 (.int fv.toInt8.toInt32)) 3 (.int fv.toInt8.toInt32)) 32 (.int fv.toInt8.toInt32)) 33 (.int fv.toInt8.toInt32)) 34 (.int fv.toInt8.toInt32)) 35 (.int fv.toInt8.toInt32)) := ⟨_, rfl⟩
  have Fq : AF Z h9 b1 .byte 36 bas := by rw [hbas]; exact F9
  refine w_aload (pc' := 71) X9 at_69 rfl rfl rfl ?_
  refine w_iload (pc' := 73) X9 at_71 rfl rfl ?_
  refine w_lloadN (pc' := 74) X9 at_73 rfl rfl ?_
  refine w_callS (pc' := 77) (wd := 0) (argsL := [(.ref b1), (.int (Int32.ofNat ov)), (.long w0)]) (rest := []) (Q2 := (rm1_Q Z b1 (Int32.ofNat ov) w0 bas ov h9 n0)) X9 at_74 (hw _ (List.mem_of_getElem? (i := 1) rfl)) (hw _ (List.mem_of_getElem? (i := 2) rfl)) (hw _ (List.mem_of_getElem? (i := 3) rfl)) (hw _ (List.mem_of_getElem? (i := 4) rfl)) (by decide) (rm1 l Z a0 hw [] b1 (Int32.ofNat ov) w0 bas ov h9 n0 X9.size Fq rfl (by omega) g1) pd_118 rfl rfl rfl (Nat.le_of_eq rfl) (by decide) (fun v10 T10 h10 X10 q10 => ?_)
  obtain ⟨rfl, Kc10, Fc10⟩ := q10
  refine w_aload (pc' := 79) X10 at_77 rfl rfl rfl ?_
  refine w_iload (pc' := 81) X10 at_79 rfl rfl ?_
  refine w_bipush (pc' := 83) (z := (8 : Int32)) X10 at_81 rfl rfl ?_
  refine w_iadd (pc' := 84) X10 at_83 rfl ?_
  refine w_lloadN (pc' := 85) X10 at_84 rfl rfl ?_
  refine w_callS (pc' := 88) (wd := 0) (argsL := [(.ref b1), (.int ((Int32.ofNat ov) + (8 : Int32))), (.long w1)]) (rest := []) (Q2 := (rm1_Q Z b1 ((Int32.ofNat ov) + (8 : Int32)) w1 (own_f bas ov w0) (ov + 8) h10 n0)) X10 at_85 (hw _ (List.mem_of_getElem? (i := 1) rfl)) (hw _ (List.mem_of_getElem? (i := 2) rfl)) (hw _ (List.mem_of_getElem? (i := 3) rfl)) (hw _ (List.mem_of_getElem? (i := 4) rfl)) (by decide) (rm1 l Z a0 hw [] b1 ((Int32.ofNat ov) + (8 : Int32)) w1 (own_f bas ov w0) (ov + 8) h10 n0 X10.size Fc10 (own_addn ov 8) (by omega) g1) pd_118 rfl rfl rfl (Nat.le_of_eq rfl) (by decide) (fun v11 T11 h11 X11 q11 => ?_)
  obtain ⟨rfl, Kc11, Fc11⟩ := q11
  refine w_aload (pc' := 90) X11 at_88 rfl rfl rfl ?_
  refine w_iload (pc' := 92) X11 at_90 rfl rfl ?_
  refine w_bipush (pc' := 94) (z := (16 : Int32)) X11 at_92 rfl rfl ?_
  refine w_iadd (pc' := 95) X11 at_94 rfl ?_
  refine w_lload (pc' := 97) X11 at_95 rfl rfl ?_
  refine w_callS (pc' := 100) (wd := 0) (argsL := [(.ref b1), (.int ((Int32.ofNat ov) + (16 : Int32))), (.long w2)]) (rest := []) (Q2 := (rm1_Q Z b1 ((Int32.ofNat ov) + (16 : Int32)) w2 (own_f (own_f bas ov w0) (ov + 8) w1) (ov + 16) h11 n0)) X11 at_97 (hw _ (List.mem_of_getElem? (i := 1) rfl)) (hw _ (List.mem_of_getElem? (i := 2) rfl)) (hw _ (List.mem_of_getElem? (i := 3) rfl)) (hw _ (List.mem_of_getElem? (i := 4) rfl)) (by decide) (rm1 l Z a0 hw [] b1 ((Int32.ofNat ov) + (16 : Int32)) w2 (own_f (own_f bas ov w0) (ov + 8) w1) (ov + 16) h11 n0 X11.size Fc11 (own_addn ov 16) (by omega) g1) pd_118 rfl rfl rfl (Nat.le_of_eq rfl) (by decide) (fun v12 T12 h12 X12 q12 => ?_)
  obtain ⟨rfl, Kc12, Fc12⟩ := q12
  refine w_aload (pc' := 102) X12 at_100 rfl rfl rfl ?_
  refine w_iload (pc' := 104) X12 at_102 rfl rfl ?_
  refine w_bipush (pc' := 106) (z := (24 : Int32)) X12 at_104 rfl rfl ?_
  refine w_iadd (pc' := 107) X12 at_106 rfl ?_
  refine w_lload (pc' := 109) X12 at_107 rfl rfl ?_
  refine w_callS (pc' := 112) (wd := 0) (argsL := [(.ref b1), (.int ((Int32.ofNat ov) + (24 : Int32))), (.long w3)]) (rest := []) (Q2 := (rm1_Q Z b1 ((Int32.ofNat ov) + (24 : Int32)) w3 (own_f (own_f (own_f bas ov w0) (ov + 8) w1) (ov + 16) w2) (ov + 24) h12 n0)) X12 at_109 (hw _ (List.mem_of_getElem? (i := 1) rfl)) (hw _ (List.mem_of_getElem? (i := 2) rfl)) (hw _ (List.mem_of_getElem? (i := 3) rfl)) (hw _ (List.mem_of_getElem? (i := 4) rfl)) (by decide) (rm1 l Z a0 hw [] b1 ((Int32.ofNat ov) + (24 : Int32)) w3 (own_f (own_f (own_f bas ov w0) (ov + 8) w1) (ov + 16) w2) (ov + 24) h12 n0 X12.size Fc12 (own_addn ov 24) (by omega) g1) pd_118 rfl rfl rfl (Nat.le_of_eq rfl) (by decide) (fun v13 T13 h13 X13 q13 => ?_)
  obtain ⟨rfl, Kc13, Fc13⟩ := q13
  refine w_aload (pc' := 114) X13 at_112 rfl rfl rfl ?_
  refine w_iload (pc' := 116) X13 at_114 rfl rfl ?_
  refine w_callS (pc' := 119) (wd := 0) (argsL := [(.ref b1), (.int (Int32.ofNat ov))]) (rest := []) (Q2 := (rm2_Q Z b1 (Int32.ofNat ov) (own_f (own_f (own_f (own_f bas ov w0) (ov + 8) w1) (ov + 16) w2) (ov + 24) w3) ov (own_bb w0 w1 w2 w3) h13 n0)) X13 at_116 (hw _ (List.mem_of_getElem? (i := 5) rfl)) (hw _ (List.mem_of_getElem? (i := 6) rfl)) (hw _ (List.mem_of_getElem? (i := 7) rfl)) (hw _ (List.mem_of_getElem? (i := 8) rfl)) (by decide) (rm2 l Z a0 hw [] b1 (Int32.ofNat ov) (own_f (own_f (own_f (own_f bas ov w0) (ov + 8) w1) (ov + 16) w2) (ov + 24) w3) ov (own_bb w0 w1 w2 w3) h13 n0 X13.size Fc13 rfl hov (own_cont _ ov w0 w1 w2 w3)) pd_119 rfl rfl rfl (Nat.le_of_eq rfl) (by decide) (fun v14 T14 h14 X14 q14 => ?_)
  obtain ⟨rb, rfl, Kc14, Frb⟩ := q14
  refine w_astore (pc' := 121) (L' := #[.val (.long w0), .second, .val (.long w1), .second, .val (.long w2), .second, .val (.long w3), .second, .val (.int of), .val (.int fl), .val (.int (Int32.ofNat ov)), .val (.int fv), .val (.ref b1), .val (.ref rb)]) X14 at_119 rfl rfl rfl ?_
  refine w_aload (pc' := 123) X14 at_121 rfl rfl rfl ?_
  refine w_ifnull_ref (pc' := 126) X14 at_123 rfl ?_
  refine w_aload (pc' := 128) X14 at_126 rfl rfl rfl ?_
  refine w_arraylength (pc' := 129) (z := (10 : Int32)) X14 Frb at_128 rfl rfl ?_
  refine w_bipush (pc' := 131) (z := (10 : Int32)) X14 at_129 rfl rfl ?_
  refine w_icmp_eq (pc1 := 136) (pc2 := 134) X14 at_131 (by decide) (fun (hc131 : (10 : Int32) = (10 : Int32)) => ?_) (fun (hc131 : (10 : Int32) ≠ (10 : Int32)) => absurd rfl hc131)
  refine w_aload (pc' := 138) X14 at_136 rfl rfl rfl ?_
  refine w_iconst (pc' := 139) (z := (0 : Int32)) X14 at_138 rfl rfl ?_
  refine w_laload (pc' := 140) (i := 0) (v := (.long (own_r (own_bb w0 w1 w2 w3) 255 0))) X14 Frb at_139 rfl (by decide) rfl rfl ?_
  refine w_lloadN (pc' := 141) X14 at_140 rfl rfl ?_
  refine w_ldc2 (pc' := 144) (z := (67108863 : Int64)) X14 at_141 (hw _ (List.mem_of_getElem? (i := 10) rfl)) rfl ?_
  refine w_land (pc' := 145) X14 at_144 rfl ?_
  refine w_lcif_ne (pc' := 146) (pc1 := 322) (pc2 := 149) X14 at_145 at_146 (by decide) (fun (hc146 : (own_r (own_bb w0 w1 w2 w3) 255 0) ≠ (w0 &&& (67108863 : Int64))) => absurd (own_L0 w0 w1 w2 w3) hc146) (fun (hc146 : (own_r (own_bb w0 w1 w2 w3) 255 0) = (w0 &&& (67108863 : Int64))) => ?_)
  refine w_aload (pc' := 151) X14 at_149 rfl rfl rfl ?_
  refine w_iconst (pc' := 152) (z := (1 : Int32)) X14 at_151 rfl rfl ?_
  refine w_laload (pc' := 153) (i := 1) (v := (.long (own_r (own_bb w0 w1 w2 w3) 255 1))) X14 Frb at_152 rfl (by decide) rfl rfl ?_
  refine w_lloadN (pc' := 154) X14 at_153 rfl rfl ?_
  refine w_bipush (pc' := 156) (z := (26 : Int32)) X14 at_154 rfl rfl ?_
  refine w_lushr (pc' := 157) X14 at_156 rfl ?_
  refine w_ldc2 (pc' := 160) (z := (67108863 : Int64)) X14 at_157 (hw _ (List.mem_of_getElem? (i := 10) rfl)) rfl ?_
  refine w_land (pc' := 161) X14 at_160 rfl ?_
  refine w_lcif_ne (pc' := 162) (pc1 := 322) (pc2 := 165) X14 at_161 at_162 (by decide) (fun (hc162 : (own_r (own_bb w0 w1 w2 w3) 255 1) ≠ ((lus w0 (26 : Int32)) &&& (67108863 : Int64))) => absurd (own_L1 w0 w1 w2 w3) hc162) (fun (hc162 : (own_r (own_bb w0 w1 w2 w3) 255 1) = ((lus w0 (26 : Int32)) &&& (67108863 : Int64))) => ?_)
  refine w_aload (pc' := 167) X14 at_165 rfl rfl rfl ?_
  refine w_iconst (pc' := 168) (z := (2 : Int32)) X14 at_167 rfl rfl ?_
  refine w_laload (pc' := 169) (i := 2) (v := (.long (own_r (own_bb w0 w1 w2 w3) 255 2))) X14 Frb at_168 rfl (by decide) rfl rfl ?_
  refine w_lloadN (pc' := 170) X14 at_169 rfl rfl ?_
  refine w_bipush (pc' := 172) (z := (52 : Int32)) X14 at_170 rfl rfl ?_
  refine w_lushr (pc' := 173) X14 at_172 rfl ?_
  refine w_lloadN (pc' := 174) X14 at_173 rfl rfl ?_
  refine w_bipush (pc' := 176) (z := (12 : Int32)) X14 at_174 rfl rfl ?_
  refine w_lshl (pc' := 177) X14 at_176 rfl ?_
  refine w_lor (pc' := 178) X14 at_177 rfl ?_
  refine w_ldc2 (pc' := 181) (z := (67108863 : Int64)) X14 at_178 (hw _ (List.mem_of_getElem? (i := 10) rfl)) rfl ?_
  refine w_land (pc' := 182) X14 at_181 rfl ?_
  refine w_lcif_ne (pc' := 183) (pc1 := 322) (pc2 := 186) X14 at_182 at_183 (by decide) (fun (hc183 : (own_r (own_bb w0 w1 w2 w3) 255 2) ≠ (((lus w0 (52 : Int32)) ||| (lsl w1 (12 : Int32))) &&& (67108863 : Int64))) => absurd (own_L2 w0 w1 w2 w3) hc183) (fun (hc183 : (own_r (own_bb w0 w1 w2 w3) 255 2) = (((lus w0 (52 : Int32)) ||| (lsl w1 (12 : Int32))) &&& (67108863 : Int64))) => ?_)
  refine w_aload (pc' := 188) X14 at_186 rfl rfl rfl ?_
  refine w_iconst (pc' := 189) (z := (3 : Int32)) X14 at_188 rfl rfl ?_
  refine w_laload (pc' := 190) (i := 3) (v := (.long (own_r (own_bb w0 w1 w2 w3) 255 3))) X14 Frb at_189 rfl (by decide) rfl rfl ?_
  refine w_lloadN (pc' := 191) X14 at_190 rfl rfl ?_
  refine w_bipush (pc' := 193) (z := (14 : Int32)) X14 at_191 rfl rfl ?_
  refine w_lushr (pc' := 194) X14 at_193 rfl ?_
  refine w_ldc2 (pc' := 197) (z := (67108863 : Int64)) X14 at_194 (hw _ (List.mem_of_getElem? (i := 10) rfl)) rfl ?_
  refine w_land (pc' := 198) X14 at_197 rfl ?_
  refine w_lcif_ne (pc' := 199) (pc1 := 322) (pc2 := 202) X14 at_198 at_199 (by decide) (fun (hc199 : (own_r (own_bb w0 w1 w2 w3) 255 3) ≠ ((lus w1 (14 : Int32)) &&& (67108863 : Int64))) => absurd (own_L3 w0 w1 w2 w3) hc199) (fun (hc199 : (own_r (own_bb w0 w1 w2 w3) 255 3) = ((lus w1 (14 : Int32)) &&& (67108863 : Int64))) => ?_)
  refine w_aload (pc' := 204) X14 at_202 rfl rfl rfl ?_
  refine w_iconst (pc' := 205) (z := (4 : Int32)) X14 at_204 rfl rfl ?_
  refine w_laload (pc' := 206) (i := 4) (v := (.long (own_r (own_bb w0 w1 w2 w3) 255 4))) X14 Frb at_205 rfl (by decide) rfl rfl ?_
  refine w_lloadN (pc' := 207) X14 at_206 rfl rfl ?_
  refine w_bipush (pc' := 209) (z := (40 : Int32)) X14 at_207 rfl rfl ?_
  refine w_lushr (pc' := 210) X14 at_209 rfl ?_
  refine w_lload (pc' := 212) X14 at_210 rfl rfl ?_
  refine w_bipush (pc' := 214) (z := (24 : Int32)) X14 at_212 rfl rfl ?_
  refine w_lshl (pc' := 215) X14 at_214 rfl ?_
  refine w_lor (pc' := 216) X14 at_215 rfl ?_
  refine w_ldc2 (pc' := 219) (z := (67108863 : Int64)) X14 at_216 (hw _ (List.mem_of_getElem? (i := 10) rfl)) rfl ?_
  refine w_land (pc' := 220) X14 at_219 rfl ?_
  refine w_lcif_ne (pc' := 221) (pc1 := 322) (pc2 := 224) X14 at_220 at_221 (by decide) (fun (hc221 : (own_r (own_bb w0 w1 w2 w3) 255 4) ≠ (((lus w1 (40 : Int32)) ||| (lsl w2 (24 : Int32))) &&& (67108863 : Int64))) => absurd (own_L4 w0 w1 w2 w3) hc221) (fun (hc221 : (own_r (own_bb w0 w1 w2 w3) 255 4) = (((lus w1 (40 : Int32)) ||| (lsl w2 (24 : Int32))) &&& (67108863 : Int64))) => ?_)
  refine w_aload (pc' := 226) X14 at_224 rfl rfl rfl ?_
  refine w_iconst (pc' := 227) (z := (5 : Int32)) X14 at_226 rfl rfl ?_
  refine w_laload (pc' := 228) (i := 5) (v := (.long (own_r (own_bb w0 w1 w2 w3) 255 5))) X14 Frb at_227 rfl (by decide) rfl rfl ?_
  refine w_lload (pc' := 230) X14 at_228 rfl rfl ?_
  refine w_iconst (pc' := 231) (z := (2 : Int32)) X14 at_230 rfl rfl ?_
  refine w_lushr (pc' := 232) X14 at_231 rfl ?_
  refine w_ldc2 (pc' := 235) (z := (67108863 : Int64)) X14 at_232 (hw _ (List.mem_of_getElem? (i := 10) rfl)) rfl ?_
  refine w_land (pc' := 236) X14 at_235 rfl ?_
  refine w_lcif_ne (pc' := 237) (pc1 := 322) (pc2 := 240) X14 at_236 at_237 (by decide) (fun (hc237 : (own_r (own_bb w0 w1 w2 w3) 255 5) ≠ ((lus w2 (2 : Int32)) &&& (67108863 : Int64))) => absurd (own_L5 w0 w1 w2 w3) hc237) (fun (hc237 : (own_r (own_bb w0 w1 w2 w3) 255 5) = ((lus w2 (2 : Int32)) &&& (67108863 : Int64))) => ?_)
  refine w_aload (pc' := 242) X14 at_240 rfl rfl rfl ?_
  refine w_bipush (pc' := 244) (z := (6 : Int32)) X14 at_242 rfl rfl ?_
  refine w_laload (pc' := 245) (i := 6) (v := (.long (own_r (own_bb w0 w1 w2 w3) 255 6))) X14 Frb at_244 rfl (by decide) rfl rfl ?_
  refine w_lload (pc' := 247) X14 at_245 rfl rfl ?_
  refine w_bipush (pc' := 249) (z := (28 : Int32)) X14 at_247 rfl rfl ?_
  refine w_lushr (pc' := 250) X14 at_249 rfl ?_
  refine w_ldc2 (pc' := 253) (z := (67108863 : Int64)) X14 at_250 (hw _ (List.mem_of_getElem? (i := 10) rfl)) rfl ?_
  refine w_land (pc' := 254) X14 at_253 rfl ?_
  refine w_lcif_ne (pc' := 255) (pc1 := 322) (pc2 := 258) X14 at_254 at_255 (by decide) (fun (hc255 : (own_r (own_bb w0 w1 w2 w3) 255 6) ≠ ((lus w2 (28 : Int32)) &&& (67108863 : Int64))) => absurd (own_L6 w0 w1 w2 w3) hc255) (fun (hc255 : (own_r (own_bb w0 w1 w2 w3) 255 6) = ((lus w2 (28 : Int32)) &&& (67108863 : Int64))) => ?_)
  refine w_aload (pc' := 260) X14 at_258 rfl rfl rfl ?_
  refine w_bipush (pc' := 262) (z := (7 : Int32)) X14 at_260 rfl rfl ?_
  refine w_laload (pc' := 263) (i := 7) (v := (.long (own_r (own_bb w0 w1 w2 w3) 255 7))) X14 Frb at_262 rfl (by decide) rfl rfl ?_
  refine w_lload (pc' := 265) X14 at_263 rfl rfl ?_
  refine w_bipush (pc' := 267) (z := (54 : Int32)) X14 at_265 rfl rfl ?_
  refine w_lushr (pc' := 268) X14 at_267 rfl ?_
  refine w_lload (pc' := 270) X14 at_268 rfl rfl ?_
  refine w_bipush (pc' := 272) (z := (10 : Int32)) X14 at_270 rfl rfl ?_
  refine w_lshl (pc' := 273) X14 at_272 rfl ?_
  refine w_lor (pc' := 274) X14 at_273 rfl ?_
  refine w_ldc2 (pc' := 277) (z := (67108863 : Int64)) X14 at_274 (hw _ (List.mem_of_getElem? (i := 10) rfl)) rfl ?_
  refine w_land (pc' := 278) X14 at_277 rfl ?_
  refine w_lcif_ne (pc' := 279) (pc1 := 322) (pc2 := 282) X14 at_278 at_279 (by decide) (fun (hc279 : (own_r (own_bb w0 w1 w2 w3) 255 7) ≠ (((lus w2 (54 : Int32)) ||| (lsl w3 (10 : Int32))) &&& (67108863 : Int64))) => absurd (own_L7 w0 w1 w2 w3) hc279) (fun (hc279 : (own_r (own_bb w0 w1 w2 w3) 255 7) = (((lus w2 (54 : Int32)) ||| (lsl w3 (10 : Int32))) &&& (67108863 : Int64))) => ?_)
  refine w_aload (pc' := 284) X14 at_282 rfl rfl rfl ?_
  refine w_bipush (pc' := 286) (z := (8 : Int32)) X14 at_284 rfl rfl ?_
  refine w_laload (pc' := 287) (i := 8) (v := (.long (own_r (own_bb w0 w1 w2 w3) 255 8))) X14 Frb at_286 rfl (by decide) rfl rfl ?_
  refine w_lload (pc' := 289) X14 at_287 rfl rfl ?_
  refine w_bipush (pc' := 291) (z := (16 : Int32)) X14 at_289 rfl rfl ?_
  refine w_lushr (pc' := 292) X14 at_291 rfl ?_
  refine w_ldc2 (pc' := 295) (z := (67108863 : Int64)) X14 at_292 (hw _ (List.mem_of_getElem? (i := 10) rfl)) rfl ?_
  refine w_land (pc' := 296) X14 at_295 rfl ?_
  refine w_lcif_ne (pc' := 297) (pc1 := 322) (pc2 := 300) X14 at_296 at_297 (by decide) (fun (hc297 : (own_r (own_bb w0 w1 w2 w3) 255 8) ≠ ((lus w3 (16 : Int32)) &&& (67108863 : Int64))) => absurd (own_L8 w0 w1 w2 w3) hc297) (fun (hc297 : (own_r (own_bb w0 w1 w2 w3) 255 8) = ((lus w3 (16 : Int32)) &&& (67108863 : Int64))) => ?_)
  refine w_aload (pc' := 302) X14 at_300 rfl rfl rfl ?_
  refine w_bipush (pc' := 304) (z := (9 : Int32)) X14 at_302 rfl rfl ?_
  refine w_laload (pc' := 305) (i := 9) (v := (.long (own_r (own_bb w0 w1 w2 w3) 255 9))) X14 Frb at_304 rfl (by decide) rfl rfl ?_
  refine w_lload (pc' := 307) X14 at_305 rfl rfl ?_
  refine w_bipush (pc' := 309) (z := (42 : Int32)) X14 at_307 rfl rfl ?_
  refine w_lushr (pc' := 310) X14 at_309 rfl ?_
  refine w_ldc2 (pc' := 313) (z := (2097151 : Int64)) X14 at_310 (hw _ (List.mem_of_getElem? (i := 11) rfl)) rfl ?_
  refine w_land (pc' := 314) X14 at_313 rfl ?_
  refine w_lcif_ne (pc' := 315) (pc1 := 322) (pc2 := 318) X14 at_314 at_315 (by decide) (fun (hc315 : (own_r (own_bb w0 w1 w2 w3) 255 9) ≠ ((lus w3 (42 : Int32)) &&& (2097151 : Int64))) => absurd (own_L9 w0 w1 w2 w3) hc315) (fun (hc315 : (own_r (own_bb w0 w1 w2 w3) 255 9) = ((lus w3 (42 : Int32)) &&& (2097151 : Int64))) => ?_)
  refine w_iconst (pc' := 319) (z := (1 : Int32)) X14 at_318 rfl rfl ?_
  refine w_goto (pc' := 323) X14 at_319 (by decide) ?_
  exact w_nreturn (t := .boolean) X14 at_323 rfl (by simp) (rfl)
set_option maxRecDepth 65536 in
set_option maxHeartbeats 40000000 in
theorem comes_1 {Post : Tables → Env → Array Value → State → Outcome → State → Prop} (hpost : ∀ tb e args s v u, (limb_1_1.after args s (.returned v) u = true ∧ limb_1_2.after args s (.returned v) u = true ∧ True) → FrameEnd s (.returned v) u (Jvm.fieldLocs frame_1_writes args s ++ Jvm.arrayLocs frame_1_arrays args s ++ Jvm.staticLocs frame_1_statics s) 16 192 → Post tb e args s (.returned v) u) :
    ArmFor flags0 classFile x code maxLocals ret World_1 tables_1 room_1 Calls_1 rest_1 Pre_1 Post := by
  intro l hfl _ _ p e ha hc hk s m args below hf hA hF happ hP
  obtain ⟨hcalls, hrest, hpre⟩ := hP
  obtain ⟨-, -, -, hnamed, -, -, -, hat⟩ := (Spec.applies_iff hf).mp happ
  obtain ⟨hg, hn⟩ := and_e (Cond.before_iff.mp (show (Jvm.Cond.and given_1 narrow_1).before args s = true from hpre))
  obtain ⟨ga0, gb0⟩ := and_e hg
  obtain ⟨ga1, gb1⟩ := and_e gb0
  obtain ⟨ga2, gb2⟩ := and_e gb1
  obtain ⟨ga3, gb3⟩ := and_e gb2
  obtain ⟨ga4, gb4⟩ := and_e gb3
  obtain ⟨ga5, gb5⟩ := and_e gb4
  obtain ⟨w0, w1, w2, w3, w4, w5, rfl⟩ : ∃ w0 w1 w2 w3 w4 w5 : Value, args = #[w0, w1, w2, w3, w4, w5] := by
    have hs : args.size = 6 := by simpa [Cond.value, given_1] using ga0
    obtain ⟨L⟩ := args
    match L, hs with
    | [w0, w1, w2, w3, w4, w5], _ => exact ⟨w0, w1, w2, w3, w4, w5, rfl⟩
  have hw := fun d (hd : d ∈ tables_1) => atoms_spec (ws := Jvm.Cond.code x code maxLocals ret :: tables_1) hat d (List.mem_cons_of_mem _ hd)
  obtain ⟨i0, ei0⟩ := isL_v ga1
  obtain rfl : w0 = (.long i0) := Option.some.inj ei0
  obtain ⟨i1, ei1⟩ := isL_v ga2
  obtain rfl : w1 = (.long i1) := Option.some.inj ei1
  obtain ⟨i2, ei2⟩ := isL_v ga3
  obtain rfl : w2 = (.long i2) := Option.some.inj ei2
  obtain ⟨i3, ei3⟩ := isL_v ga4
  obtain rfl : w3 = (.long i3) := Option.some.inj ei3
  obtain ⟨i4, ei4⟩ := is_v ga5
  obtain rfl : w4 = (.int i4) := Option.some.inj ei4
  obtain ⟨i5, ei5⟩ := is_v gb5
  obtain rfl : w5 = (.int i5) := Option.some.inj ei5
  obtain ⟨n, o, h1, h2, h3, _, L, rfl, ⟨N, -, rfl⟩, hq⟩ := rm0 l s _ hw tables_1 i0 i1 i2 i3 i4 i5 s.heap s.heap.size (Nat.le_refl _) p e ha hc hk s m _ below hf ((Spec.applies_iff_loose hf).mp happ).1 ⟨rfl, State.Warmed39.refl s, rfl⟩ trivial
  refine ⟨n, _, h1, h2, h3, hpost _ _ _ _ _ _ ⟨Cond.after_iff.mpr rfl, Cond.after_iff.mpr (eq_i res_at (Term.int_eval (1)) rfl), trivial⟩ ⟨hq.1, hq.2.1, (hq.2.2.sift fun y hy => Or.inr (N y hy)).mono (by decide) (by decide)⟩⟩
theorem main_1_1 : Claimed_1_1 := comes_1 fun _ _ _ _ _ _ h hF => ⟨h.1, hF⟩
theorem main_1_2 : Claimed_1_2 := comes_1 fun _ _ _ _ _ _ h hF => ⟨h.2.1, hF⟩
end Jvm.Pilot.@@N@@
namespace Jvm.Pilot.@@N@@
open Jvm Jvm.ClassFile Sem Op Lib Jvm.Free Jvm.Stand Jvm.Pilot.@@N@@.Jvm.D
/-! MADE BY PROGRAM (witnessworld.py) out of the Statement's table words and the real class files: 11 classes; the members and pool entries that the words name. The judged class is class 1, her method 2. -/
namespace start1
open Jvm.ClassFile
def u (s : String) : CpInfo := .utf8 (stringToUtf16 s)
/-- a pool by its gaps: so many unusable entries, then the entry; so many at the end -/
def gap : Nat → List CpInfo → List CpInfo
  | 0, r => r
  | n + 1, r => .unusable :: gap n r
def poolList (es : List (Nat × CpInfo)) (last : Nat) : List CpInfo := es.foldr (fun e r => gap e.1 (e.2 :: r)) (gap last [])
def pool (es : List (Nat × CpInfo)) (last : Nat) : Array CpInfo := ⟨poolList es last⟩
def fileOf (pool : Array CpInfo) (this : Nat) (attrs : Array Attribute := #[]) (ms : Array MethodInfo := #[]) (fl : Nat := 33) (sup : Nat := 0) (ifs : Array Nat := #[]) (fds : Array FieldInfo := #[]) : ClassFile where
  minorVersion := 0
  majorVersion := 65
  constantPool := pool
  accessFlags := fl
  thisClass := this
  superClass := sup
  interfaces := ifs
  fields := fds
  methods := ms
  attributes := attrs
def plain (name : String) (sup : Option ClassId) : Class where
  name := name
  kind := .ordinary
  loader := none
  accessFlags := 33
  super := sup
  interfaces := #[]
  cf := none
  fields := #[]
  methods := #[]
  instanceTypes := #[]
  staticTypes := #[]
  resolved := #[]
  callSites := []
  init := .initialized
  statics := none
  mirror := none

def pool0 : Array CpInfo := pool [(5, u "<init>"), (0, u "()V"), (1, .class_ 10), (1, u "java/lang/Object")] 113

def k0m0 : Method := { name := "<init>", desc := "()V", sig := { parameters := [], returnType := none }, accessFlags := 1, code := none }
/-- java/lang/Object -/
def k0 : Class := { plain "java/lang/Object" none with
  accessFlags := 33
  interfaces := #[]
  cf := some (fileOf pool0 8 #[] #[{ accessFlags := 1, nameIndex := 5, descriptorIndex := 6, attributes := #[] }] 33 0 #[] #[])
  fields := #[]
  methods := #[k0m0]
  instanceTypes := #[]
  staticTypes := #[]
  resolved := Array.replicate 124 none
  statics := none }

def pool1 : Array CpInfo := pool [(2, .class_ 4), (1, u "java/lang/Object"), (0, u "<init>"), (0, u "()V"), (0, .methodref 8 9), (0, .class_ 10), (0, .nameAndType 11 12), (0, u "com/example/plain_audit/plainaudit/trail/Field25519FromBytesPinLaw"), (0, u "put"), (0, u "([BIJ)V"), (0, .methodref 14 15), (0, .class_ 16), (0, .nameAndType 17 18), (0, u "com/example/plain_audit/plainaudit/trail/Field25519"), (0, u "fromBytes"), (0, u "([BI)[J"), (0, .long 67108863), (1, .long 2097151), (1, u "M"), (0, u "J"), (3, u "law"), (0, u "(JJJJII)Z")] 7

def k1m0 : Method := { name := "<init>", desc := "()V", sig := { parameters := [], returnType := none }, accessFlags := 1, code := none }
def k1c1 : Code := { maxStack := 5, maxLocals := 4, code := method_2_code, exceptionTable := #[], attributes := #[] }
def k1m1 : Method := { name := "put", desc := "([BIJ)V", sig := { parameters := [(.array .byte), .int, .long], returnType := none }, accessFlags := 10, code := some k1c1 }
def k1c2 : Code := { maxStack := 7, maxLocals := 14, code := code, exceptionTable := #[], attributes := #[] }
def k1m2 : Method := { name := "law", desc := "(JJJJII)Z", sig := { parameters := [.long, .long, .long, .long, .int, .int], returnType := some .boolean }, accessFlags := 9, code := some k1c2 }
/-- com/example/plain_audit/plainaudit/trail/Field25519FromBytesPinLaw -/
def k1 : Class := { plain "com/example/plain_audit/plainaudit/trail/Field25519FromBytesPinLaw" (some 0) with
  accessFlags := 49
  interfaces := #[]
  cf := some (fileOf pool1 8 #[] #[{ accessFlags := 1, nameIndex := 5, descriptorIndex := 6, attributes := #[] }, { accessFlags := 10, nameIndex := 11, descriptorIndex := 12, attributes := #[] }, { accessFlags := 9, nameIndex := 28, descriptorIndex := 29, attributes := #[] }] 49 2 #[] #[{ accessFlags := 26, nameIndex := 23, descriptorIndex := 24, attributes := #[] }])
  fields := #[{ name := "M", type := .long, accessFlags := 26, slot := 0, constantValue := 0 }]
  methods := #[k1m0, k1m1, k1m2]
  instanceTypes := #[]
  staticTypes := #[.long]
  resolved := Array.replicate 37 none
  statics := none }

def pool2 : Array CpInfo := pool [(1, .class_ 2), (0, u "com/example/plain_audit/plainaudit/trail/Field25519"), (1, .class_ 6), (1, u "java/lang/Object"), (0, u "<init>"), (0, u "()V"), (65, u "Ljava/math/BigInteger;"), (13, u "P"), (0, u "LIMBS"), (0, u "I"), (2, u "LIMB_BITS"), (1, u "LIMB_MASK"), (0, u "J"), (0, u "WRAP"), (0, u "TOP_BITS"), (1, u "TOP_MASK"), (5, u "fromBytes"), (0, u "([BI)[J")] 11

def k2m0 : Method := { name := "<init>", desc := "()V", sig := { parameters := [], returnType := none }, accessFlags := 2, code := none }
def k2c1 : Code := { maxStack := 8, maxLocals := 4, code := prog_37_method_3_code, exceptionTable := #[], attributes := #[] }
def k2m1 : Method := { name := "fromBytes", desc := "([BI)[J", sig := { parameters := [(.array .byte), .int], returnType := some (.array .long) }, accessFlags := 8, code := some k2c1 }
/-- com/example/plain_audit/plainaudit/trail/Field25519 -/
def k2 : Class := { plain "com/example/plain_audit/plainaudit/trail/Field25519" (some 0) with
  accessFlags := 32
  interfaces := #[]
  cf := some (fileOf pool2 1 #[] #[{ accessFlags := 2, nameIndex := 7, descriptorIndex := 8, attributes := #[] }, { accessFlags := 8, nameIndex := 106, descriptorIndex := 107, attributes := #[] }] 32 4 #[] #[{ accessFlags := 24, nameIndex := 89, descriptorIndex := 90, attributes := #[] }, { accessFlags := 24, nameIndex := 88, descriptorIndex := 74, attributes := #[] }, { accessFlags := 26, nameIndex := 93, descriptorIndex := 90, attributes := #[] }, { accessFlags := 26, nameIndex := 95, descriptorIndex := 96, attributes := #[] }, { accessFlags := 26, nameIndex := 97, descriptorIndex := 96, attributes := #[] }, { accessFlags := 26, nameIndex := 98, descriptorIndex := 90, attributes := #[] }, { accessFlags := 26, nameIndex := 100, descriptorIndex := 96, attributes := #[] }])
  fields := #[{ name := "LIMBS", type := .int, accessFlags := 24, slot := 0, constantValue := 0 }, { name := "P", type := (.object "java/math/BigInteger"), accessFlags := 24, slot := 1, constantValue := 0 }, { name := "LIMB_BITS", type := .int, accessFlags := 26, slot := 2, constantValue := 0 }, { name := "LIMB_MASK", type := .long, accessFlags := 26, slot := 3, constantValue := 0 }, { name := "WRAP", type := .long, accessFlags := 26, slot := 4, constantValue := 0 }, { name := "TOP_BITS", type := .int, accessFlags := 26, slot := 5, constantValue := 0 }, { name := "TOP_MASK", type := .long, accessFlags := 26, slot := 6, constantValue := 0 }]
  methods := #[k2m0, k2m1]
  instanceTypes := #[]
  staticTypes := #[.int, (.object "java/math/BigInteger"), .int, .long, .long, .int, .long]
  resolved := Array.replicate 119 none
  statics := none }

def pool3 : Array CpInfo := pool [(1, u "java/lang/Cloneable"), (0, .class_ 1), (0, u "java/lang/Object"), (0, .class_ 3)] 3

/-- java/lang/Cloneable -/
def k3 : Class := { plain "java/lang/Cloneable" (some 0) with
  accessFlags := 1537
  interfaces := #[]
  cf := some (fileOf pool3 2 #[] #[] 1537 4 #[] #[])
  fields := #[]
  methods := #[]
  instanceTypes := #[]
  staticTypes := #[]
  resolved := Array.replicate 8 none
  statics := none }

def pool4 : Array CpInfo := pool [(1, u "java/io/Serializable"), (0, .class_ 1), (0, u "java/lang/Object"), (0, .class_ 3)] 3

/-- java/io/Serializable -/
def k4 : Class := { plain "java/io/Serializable" (some 0) with
  accessFlags := 1537
  interfaces := #[]
  cf := some (fileOf pool4 2 #[] #[] 1537 4 #[] #[])
  fields := #[]
  methods := #[]
  instanceTypes := #[]
  staticTypes := #[]
  resolved := Array.replicate 8 none
  statics := none }

/-- the primitive byte -/
def k5 : Class := { plain "byte" none with kind := .primitive 'B', accessFlags := 0x411 }
/-- [B -/
def k6 : Class := { plain "[B" (some 0) with kind := .array 5 .byte, interfaces := #[3, 4], accessFlags := 1041 }

/-- the primitive int -/
def k7 : Class := { plain "int" none with kind := .primitive 'I', accessFlags := 0x411 }
/-- [I -/
def k8 : Class := { plain "[I" (some 0) with kind := .array 7 .int, interfaces := #[3, 4], accessFlags := 1041 }

/-- the primitive long -/
def k9 : Class := { plain "long" none with kind := .primitive 'J', accessFlags := 0x411 }
/-- [J -/
def k10 : Class := { plain "[J" (some 0) with kind := .array 9 .long, interfaces := #[3, 4], accessFlags := 1041 }

def heap : Heap := #[]
def classes : Array Class := #[k0, k1, k2, k3, k4, k5, k6, k7, k8, k9, k10]
def interned : List (Array UInt16 × Addr) := []
def slotsUsed : Nat := 0
def theMethod : MethodId := ⟨1, 2⟩
def args0 : Array Value := #[.long 5, .long 3, .long 2, .long 7, .int 1, .int 9]
def aboutOver (below : List Frame) : State where
  vm := { classes := classes, interned := interned.toArray }
  heap := heap
  slotsUsed := slotsUsed
  threads := #[{ frames := .invoking theMethod args0 :: below }]
def below0 : List Frame := [.native { method := ⟨0, 0⟩, args := #[] }]
def about1 : State := aboutOver below0
def p0 : Program := .bare "" "" ""
def e0 : Env := launch0.env 0 0 0
theorem w_frames : about1.frames = Frame.invoking theMethod args0 :: below0 := rfl
set_option maxRecDepth 65536 in
theorem w_args : argsFit about1.vm theMethod args0 = true := by decide +kernel
set_option maxRecDepth 65536 in
theorem w_heap : heapFits about1 = true := by decide +kernel
set_option maxRecDepth 65536 in
theorem w_runnable : about1.curStatus? = some .runnable := by decide +kernel
set_option maxRecDepth 65536 in
theorem w_alone : about1.alone = true := by decide +kernel
set_option maxRecDepth 65536 in
theorem w_named : about1.methodNamed? x = some theMethod := by decide +kernel
set_option maxRecDepth 65536 in
theorem w_hears : about1.hears theMethod below0 = true := by decide +kernel
set_option maxRecDepth 65536 in
theorem w_ripe : about1.ripe theMethod args0 below0 = true := by decide +kernel
theorem w_running : about1.status = .running := rfl
set_option maxRecDepth 65536 in
theorem w_room : about1.hasRoom e0.platform room_1 = true :=
  launch0.hasRoom_least _ room_1 (by decide +kernel) (by decide +kernel) (by decide +kernel) (by decide +kernel) (by decide +kernel) (by decide +kernel)
theorem allAtoms_all (ts : List Jvm.Cond) (a : Array Jvm.Value) (st : Jvm.State) : (allAtoms ts).before a st = ts.all (fun c => c.before a st) := by
  induction ts with
  | nil => rfl
  | cons c t ih =>
    show (Jvm.Cond.and c (allAtoms t)).before a st = _
    rw [Jvm.Cond.before_and, ih, List.all_cons]
def words1 : List Jvm.Cond := Jvm.Cond.code x code maxLocals ret :: tables_1
/-- a 'code' word, met by the world's own term for the bytes: nothing is compared byte by byte -/
theorem code_word {y : MethodName} {bytes : ByteArray} {mx : Nat} {rt : Option FieldType} {a : Array Value} {s : State} {m : MethodId} {meth : Method} {c : Code} (h1 : s.methodNamed? y = some m) (h2 : s.vm.method? m = some meth) (h3 : meth.code = some c) (h4 : c.code = bytes)
    (h5 : (c.maxLocals == mx && c.exceptionTable.isEmpty && decide (c.maxStack ≤ mostOperands) && decide (meth.sig.returnType = rt) && !meth.locks && decide (parseMethodDescriptor y.desc = some meth.sig)) = true) : (Jvm.Cond.code y bytes mx rt).before a s = true := by
  simp only [Bool.and_eq_true, beq_iff_eq, Bool.not_eq_true', decide_eq_true_eq] at h5
  obtain ⟨⟨⟨⟨⟨g1, g2⟩, g3⟩, g4⟩, g5⟩, g6⟩ := h5
  simp [Cond.before, Cond.holds, Cond.value, h1, h2, h3, h4, g1, g2, g3, g4, g5, g6]
def isCode : Jvm.Cond → Bool
  | .code _ _ _ _ => true
  | _ => false
theorem all_split {L : List Jvm.Cond} {P : Jvm.Cond → Bool} (h1 : L.all (fun c => isCode c || P c) = true) (h2 : ∀ c ∈ L.filter isCode, P c = true) : L.all P = true := by
  refine List.all_eq_true.mpr fun c hc => ?_
  have h := List.all_eq_true.mp h1 c hc
  rcases Bool.eq_false_or_eq_true (isCode c) with hi | hi
  · exact h2 c (List.mem_filter.mpr ⟨hc, hi⟩)
  · simpa [hi] using h
set_option maxRecDepth 65536 in
theorem w_c0 : (Jvm.Cond.code x code maxLocals ret).before args0 about1 = true := code_word (m := ⟨1, 2⟩) (meth := k1m2) (c := k1c2) (by decide +kernel) rfl rfl rfl (by decide +kernel)
set_option maxRecDepth 65536 in
theorem w_c1 : (Jvm.Cond.code ({ cls := "com/example/plain_audit/plainaudit/trail/Field25519FromBytesPinLaw", name := "put", desc := "([BIJ)V" } : Jvm.MethodName) method_2_code (4 : Nat) (Option.none : Option Jvm.ClassFile.FieldType)).before args0 about1 = true := code_word (m := ⟨1, 1⟩) (meth := k1m1) (c := k1c1) (by decide +kernel) rfl rfl rfl (by decide +kernel)
set_option maxRecDepth 65536 in
theorem w_c2 : (Jvm.Cond.code ({ cls := "com/example/plain_audit/plainaudit/trail/Field25519", name := "fromBytes", desc := "([BI)[J" } : Jvm.MethodName) prog_37_method_3_code (4 : Nat) (Option.some (Jvm.ClassFile.FieldType.array Jvm.ClassFile.FieldType.long))).before args0 about1 = true := code_word (m := ⟨2, 1⟩) (meth := k2m1) (c := k2c1) (by decide +kernel) rfl rfl rfl (by decide +kernel)
def codes1 : List Jvm.Cond := [Jvm.Cond.code x code maxLocals ret, Jvm.Cond.code ({ cls := "com/example/plain_audit/plainaudit/trail/Field25519FromBytesPinLaw", name := "put", desc := "([BIJ)V" } : Jvm.MethodName) method_2_code (4 : Nat) (Option.none : Option Jvm.ClassFile.FieldType), Jvm.Cond.code ({ cls := "com/example/plain_audit/plainaudit/trail/Field25519", name := "fromBytes", desc := "([BI)[J" } : Jvm.MethodName) prog_37_method_3_code (4 : Nat) (Option.some (Jvm.ClassFile.FieldType.array Jvm.ClassFile.FieldType.long))]
set_option maxRecDepth 65536 in
theorem codes_eq : words1.filter isCode = codes1 := rfl
theorem w_codes : ∀ c ∈ words1.filter isCode, c.before args0 about1 = true := by
  rw [codes_eq]
  intro c hc
  simp only [codes1, List.mem_cons, List.not_mem_nil, or_false] at hc
  rcases hc with rfl | rfl | rfl
  · exact w_c0
  · exact w_c1
  · exact w_c2
set_option maxRecDepth 65536 in
theorem w_t1 : words1.all (fun c => isCode c || c.before args0 about1) = true := by decide +kernel
theorem w_tables : (allAtoms (Jvm.Cond.code x code maxLocals ret :: tables_1)).before args0 about1 = true := by
  rw [allAtoms_all]
  show words1.all (fun c => c.before args0 about1) = true
  refine all_split ?_ w_codes
  rw [w_t1]
set_option maxRecDepth 65536 in
theorem w_case : (Jvm.Cond.and given_1 narrow_1).before args0 about1 = true := by decide +kernel
theorem w_applies : (headSpec (Jvm.Cond.code x code maxLocals ret :: tables_1) room_1).applies x e0.platform about1 = true :=
  (Spec.applies_iff w_frames).mpr ⟨w_running, w_runnable, w_alone, w_named, w_hears, w_ripe, w_room, w_tables⟩
theorem atStart : AtStart classFile x code maxLocals ret World_1 tables_1 room_1 Calls_1 rest_1 Pre_1 launch0 p0 e0 about1 theMethod args0 below0 :=
  ⟨lists_1, trivial, launch0.admits_env _ _ _, launch0.least_env, fairChoices_fair.cas, fairChoices_fair.clock, w_frames, w_args, w_heap, w_applies, trivial, trivial, w_case⟩
end start1
theorem witness_1 : WitnessClaimed_1 := ⟨start1.p0, start1.e0, start1.about1, start1.theMethod, start1.args0, start1.below0, start1.atStart⟩
end Jvm.Pilot.@@N@@
