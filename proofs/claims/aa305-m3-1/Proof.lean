import JvmDerived
import JvmDerived.Pilot.@@N@@Statement
import JvmDerived.Pilot.@@N@@Code
set_option linter.unusedVariables false
set_option linter.unusedSimpArgs false
@@BLOCK:NumsL.lean.txt@@
namespace Jvm.OwnW
open Jvm Jvm.ClassFile Sem Op Lib Jvm.Free Jvm.Stand Jvm.LawKit Jvm.RoadKit
/-! what is left to be shown, and where the run stands -/
def Qc (n0 : Nat) (Q : Option Value → Heap → Prop) (v : Option Value) (h : Heap) (L : List Loc) : Prop := Fr n0 L ∧ n0 ≤ h.size ∧ Q v h
def W (p : Program) (e : Env) (below : List Frame) (s : State) (R : Room) (n0 : Nat) (Q : Option Value → Heap → Prop) (S0 : State) : Prop :=
  ∃ s₂ o, Steps p.tables e below S0 s₂ ∧ s₂.status = .running ∧ Ended s₂ below o ∧ ∃ v L, o = .returned v ∧ Qc n0 Q v s₂.heap L ∧ FrameEnd s o s₂ L R.cells R.slots
def Sn (Z : State) (n0 : Nat) (bs : ByteArray) (mx : Nat) (own nm : String) (ret : Option FieldType) (p : Program) (l : Launch) (e : Env) (R : Room) (s : State) (m : MethodId) (args : Array Value) (below : List Frame) (meth : Method) (c : Code) (T : State) (h : Heap) (cells slots : Nat) : Prop :=
  ∃ locs, Stand p l e R s m args below meth c T locs cells slots ∧ T.heap = h ∧ Fr n0 locs ∧ n0 ≤ h.size ∧ cells ≤ R.cells ∧ slots ≤ R.slots ∧ p.tables.exec = Jvm.exec ∧ Z.Warmed39 s.vm ∧ c.code = bs ∧ c.maxLocals = mx ∧ s.vm.findClass own = some m.cls ∧ meth.name = nm ∧ meth.sig.returnType = ret ∧ meth.locks = false
def Ct (l : Launch) (Z : State) (y : MethodName) (bs : ByteArray) (mx : Nat) (ret : Option FieldType) (ws : List Jvm.Cond) (R : Room) (as' : Array Value) (h : Heap) (n0 : Nat) (Q : Option Value → Heap → Prop) : Prop :=
  MetFree l y (head1 (Cond.code y bs mx ret :: ws) R) (fun a U => a = as' ∧ Z.Warmed39 U.vm ∧ U.heap = h) (fun _ _ _ _ _ => True) (fun _ U o U' => ∃ v L, o = .returned v ∧ Qc n0 Q v U'.heap L ∧ FrameEnd U o U' L R.cells R.slots)
theorem Ct.of {l : Launch} {Z : State} {y : MethodName} {bs : ByteArray} {mx : Nat} {ret : Option FieldType} {ws : List Jvm.Cond} {R : Room} {as' : Array Value} {h : Heap} {n0 : Nat} {Q : Option Value → Heap → Prop} {Ls : Array Slot}
    (hp : plainFor y = true) (hn : n0 ≤ h.size) (he : ∀ m, entryFrame m as' mx = mkF m 0 Ls [])
    (body : ∀ p e s m below meth c T, Sn Z n0 bs mx y.cls y.name ret p l e R s m as' below meth c T h 0 0 → W p e below s R n0 Q (T.setTop (mkF m 0 Ls []))) : Ct l Z y bs mx ret ws R as' h n0 Q := by
  refine MetFree.of_bodySF hp hisR ?_
  intro p e s m args below meth c s₁ Bd hml0 hP hK
  obtain ⟨rfl, hZ, hh⟩ := hP
  have X0 : Stand p l e R s m args below meth c s₁ [] 0 0 := Stand.of_body Bd
  have e0 : s₁.heap = h := by rw [← hh, Bd.state]; rfl
  obtain ⟨s2, o, st, r⟩ := body p e s m below meth c s₁ ⟨[], X0, e0, Fr.nil n0, hn, Nat.zero_le _, Nat.zero_le _, Bd.exec, hZ, Bd.bytes, hml0, findClass_of_methodNamed Bd.named, (name_of_methodNamed Bd.named Bd.method).1, Bd.returns, Bd.notSynchronized⟩
  exact ⟨s2, o, castTop (he m) st, r⟩
/-! the shifts, by names -/
def lus (x : Int64) (y : Int32) : Int64 := (x.toUInt64 >>> (y &&& 0x3f).toInt64.toUInt64).toInt64
def lsl (x : Int64) (y : Int32) : Int64 := x <<< (y &&& 0x3f).toInt64
def lsr (x : Int64) (y : Int32) : Int64 := x >>> (y &&& 0x3f).toInt64
def ius (x : Int32) (y : Int32) : Int32 := (x.toUInt32 >>> (y &&& 31).toUInt32).toInt32
def isl (x : Int32) (y : Int32) : Int32 := x <<< (y &&& 31)
def isr (x : Int32) (y : Int32) : Int32 := x >>> (y &&& 31)
theorem sh_u : ∀ k : Nat, k < 64 → ((Int32.ofNat k &&& 0x3f).toInt64.toUInt64.toBitVec % 64).toNat = k := by decide +kernel
theorem sh_s : ∀ k : Nat, k < 64 → ((Int32.ofNat k &&& 0x3f).toInt64.toBitVec.smod 64).toNat = k := by decide +kernel
theorem sh_u32 : ∀ k : Nat, k < 32 → ((Int32.ofNat k &&& 31).toUInt32.toBitVec % 32).toNat = k := by decide +kernel
theorem sh_s32 : ∀ k : Nat, k < 32 → ((Int32.ofNat k &&& 31).toBitVec.smod 32).toNat = k := by decide +kernel
theorem lusB (x : Int64) {k : Nat} (hk : k < 64) : (lus x (Int32.ofNat k)).toBitVec = x.toBitVec >>> k := by
  show (x.toUInt64 >>> (Int32.ofNat k &&& 0x3f).toInt64.toUInt64).toBitVec = _
  rw [UInt64.toBitVec_shiftRight, BitVec.ushiftRight_eq', sh_u k hk]; rfl
theorem lslB (x : Int64) {k : Nat} (hk : k < 64) : (lsl x (Int32.ofNat k)).toBitVec = x.toBitVec <<< k := by
  unfold lsl
  rw [Int64.toBitVec_shiftLeft, BitVec.shiftLeft_eq', sh_s k hk]
theorem lsrB (x : Int64) {k : Nat} (hk : k < 64) : (lsr x (Int32.ofNat k)).toBitVec = x.toBitVec.sshiftRight k := by
  unfold lsr
  rw [Int64.toBitVec_shiftRight, BitVec.sshiftRight_eq', sh_s k hk]
theorem iusB (x : Int32) {k : Nat} (hk : k < 32) : (ius x (Int32.ofNat k)).toBitVec = x.toBitVec >>> k := by
  show (x.toUInt32 >>> (Int32.ofNat k &&& 31).toUInt32).toBitVec = _
  rw [UInt32.toBitVec_shiftRight, BitVec.ushiftRight_eq', sh_u32 k hk]; rfl
theorem isrB (x : Int32) {k : Nat} (hk : k < 32) : (isr x (Int32.ofNat k)).toBitVec = x.toBitVec.sshiftRight k := by
  unfold isr
  rw [Int32.toBitVec_shiftRight, BitVec.sshiftRight_eq', sh_s32 k hk]
/-- the long read without its sign -/
def un (x : Int64) : Nat := x.toBitVec.toNat
theorem un_inj {x y : Int64} (h : un x = un y) : x = y := Int64.toBitVec_inj.mp (BitVec.eq_of_toNat_eq h)
theorem un_lt (x : Int64) : un x < 2 ^ 64 := x.toBitVec.isLt
theorem un_of_nonneg {x : Int64} (h : 0 ≤ x.toInt) : (un x : Int) = x.toInt ∧ un x < 2 ^ 63 := by
  have e : x.toInt = if 2 * un x < 2 ^ 64 then (un x : Int) else (un x : Int) - ((2 ^ 64 : Nat) : Int) := BitVec.toInt_eq_toNat_cond _
  have l := un_lt x
  by_cases q : 2 * un x < 2 ^ 64
  · rw [if_pos q] at e; omega
  · rw [if_neg q] at e; omega
theorem un_lus (x : Int64) {k : Nat} (hk : k < 64) : un (lus x (Int32.ofNat k)) = un x / 2 ^ k := by
  unfold un; rw [lusB x hk, BitVec.toNat_ushiftRight, Nat.shiftRight_eq_div_pow]
theorem un_lsl (x : Int64) {k : Nat} (hk : k < 64) : un (lsl x (Int32.ofNat k)) = un x * 2 ^ k % 2 ^ 64 := by
  unfold un; rw [lslB x hk, BitVec.toNat_shiftLeft, Nat.shiftLeft_eq]
theorem un_or (x y : Int64) : un (x ||| y) = un x ||| un y := by
  unfold un; rw [Int64.toBitVec_or, BitVec.toNat_or]
theorem un_and (x y : Int64) : un (x &&& y) = un x &&& un y := by
  unfold un; rw [Int64.toBitVec_and, BitVec.toNat_and]
theorem un_mask (x m : Int64) {k : Nat} (hm : un m = 2 ^ k - 1) : un (x &&& m) = un x % 2 ^ k := by
  rw [un_and, hm, Nat.and_two_pow_sub_one_eq_mod]
theorem toInt_of_un {x : Int64} (h : un x < 2 ^ 63) : x.toInt = un x := by
  have e : x.toInt = x.toBitVec.toInt := rfl
  rw [e, BitVec.toInt_eq_toNat_cond]
  unfold un at *
  rw [if_pos (by omega)]
theorem lus_nonneg {x : Int64} (h : 0 ≤ x.toInt) {k : Nat} (hk : k < 64) : (lus x (Int32.ofNat k)).toInt = x.toInt / 2 ^ k := by
  have h1 := un_of_nonneg h
  have h2 := un_lus x hk
  have h3 : un x / 2 ^ k ≤ un x := Nat.div_le_self _ _
  rw [toInt_of_un (by omega), h2, ← h1.1]; simp
theorem byteN : ∀ b : BitVec 8, ((Int8.ofBitVec b).toInt32.toInt8.toInt32 &&& 255).toInt64.toBitVec.toNat = b.toNat := by decide +kernel
theorem byteU (v : Int64) : un ((v.toInt32.toInt8.toInt32.toInt8.toInt32 &&& 255).toInt64) = un v % 256 := by
  have e : (v.toInt32.toInt8).toBitVec.toNat = un v % 256 := by
    show ((v.toBitVec.signExtend 32).signExtend 8).toNat = _
    rw [BitVec.signExtend_eq_setWidth_of_le _ (by decide), BitVec.signExtend_eq_setWidth_of_le _ (by decide), BitVec.toNat_setWidth, BitVec.toNat_setWidth]
    unfold un; omega
  have h := byteN v.toInt32.toInt8.toBitVec
  rw [e] at h
  exact h
theorem catU {a c : Int64} {k : Nat} (hk : k < 64) (ha : un a * 2 ^ k < 2 ^ 64) (hc : un c < 2 ^ k) : un (lsl a (Int32.ofNat k) ||| c) = un a * 2 ^ k + un c := by
  rw [un_or, un_lsl a hk, Nat.mod_eq_of_lt ha, ← Nat.shiftLeft_eq, Nat.shiftLeft_add_eq_or_of_lt hc]
/-! an array: its kind, its length, what each place holds -/
def AF (Z : State) (h : Heap) (a : Addr) (ty : FieldType) (n : Nat) (f : Nat → Value) : Prop := ∃ c : Cell, Arr Z h a c ty ∧ c.slots.size = n ∧ n < 2 ^ 31 ∧ ∀ j, j < n → c.slots[j]? = some (f j)
def up (f : Nat → Value) (i : Nat) (v : Value) : Nat → Value := fun j => if j = i then v else f j
section
variable {Z : State} {h h' h0 : Heap} {a b : Addr} {ty : FieldType} {n i sl : Nat} {f g : Nat → Value} {v : Value} {ws : List Addr}
theorem AF.lt (F : AF Z h a ty n f) : a < h.size := by obtain ⟨c, A, -⟩ := F; exact A.lt
theorem AF.len (F : AF Z h a ty n f) : n < 2 ^ 31 := by obtain ⟨c, -, -, q, -⟩ := F; exact q
theorem AF.ext (F : AF Z h a ty n f) (E : Ext h h') : AF Z h' a ty n f := by obtain ⟨c, A, r⟩ := F; exact ⟨c, A.ext E, r⟩
theorem AF.other (F : AF Z h b ty n f) (W : Wr h h' a sl v) (q : b ≠ a) : AF Z h' b ty n f := by obtain ⟨c, A, r⟩ := F; exact ⟨c, A.other W q, r⟩
theorem AF.keep (F : AF Z h a ty n f) (K : Keep h h' ws) (q : a ∉ ws) : AF Z h' a ty n f := by obtain ⟨c, A, r⟩ := F; exact ⟨c, ⟨K.2.1 a c A.1 q, A.2⟩, r⟩
theorem AF.congr (F : AF Z h a ty n f) (q : ∀ j, j < n → f j = g j) : AF Z h a ty n g := by obtain ⟨c, A, r1, r2, r3⟩ := F; exact ⟨c, A, r1, r2, fun j hj => by rw [← q j hj]; exact r3 j hj⟩
theorem AF.set (F : AF Z h a ty n f) (W : Wr h h' a i v) : AF Z h' a ty n (up f i v) := by
  obtain ⟨c, A, r1, r2, r3⟩ := F
  refine ⟨_, A.same W, by rw [sz_set]; exact r1, r2, fun j hj => ?_⟩
  by_cases u : j = i
  · subst u; simp [Cell.setSlot, up, r1, hj]
  · simp only [Cell.setSlot, up, u, if_false]; rw [Array.getElem?_setIfInBounds_ne (Ne.symm u)]; exact r3 j hj
theorem AF.new {k : ClassId} {z : Int32} (A : Arr Z h a (newA k ty z) ty) (q : z.toInt = n) : AF Z h a ty n (fun _ => defaultValue ty) := by
  have := Int32.toInt_lt z
  refine ⟨_, A, by rw [sz_new]; simp only [Int32.toNatClampNeg]; omega, by omega, fun j hj => ?_⟩
  have : j < z.toNatClampNeg := by simp only [Int32.toNatClampNeg]; omega
  simp [newA, this]
theorem up_eq {j : Nat} (q : j = i) : up f i v j = v := if_pos q
theorem up_ne {j : Nat} (q : j ≠ i) : up f i v j = f j := if_neg q
theorem ne_size (q : b = h.size) (r : a < h.size) : a ≠ b := by subst q; exact Nat.ne_of_lt r
theorem Keep.app (K : Keep h0 h ws) (K' : Keep h h' ws) : Keep h0 h' ws := K.trans K' fun x hx => Or.inl hx
end
section
variable {p : Program} {l : Launch} {e : Env} {R : Room} {s : State} {m : MethodId} {args : Array Value} {below : List Frame} {meth : Method} {c : Code} {Z : State} {a0 : Array Value} {n0 : Nat} {bs : ByteArray} {mx : Nat} {own nm : String} {ret : Option FieldType} {T : State} {h : Heap} {cells slots : Nat} {Q : Option Value → Heap → Prop} {pc pc' pc1 pc2 k : Nat} {Ls L' : Array Slot} {st : List Value} {o : Int}
theorem W.of {S0 S1 : State} (q : ∀ t, Steps p.tables e below S1 t → Steps p.tables e below S0 t) (w : W p e below s R n0 Q S1) : W p e below s R n0 Q S0 := by
  obtain ⟨s2, o, st, r⟩ := w; exact ⟨s2, o, q _ st, r⟩
theorem W.fwd {S0 S1 : State} (q : Steps p.tables e below S0 S1) (w : W p e below s R n0 Q S1) : W p e below s R n0 Q S0 := W.of (fun _ k => q.trans k) w
theorem w_topI {x x' : Int32} (q : x = x') (w : W p e below s R n0 Q (T.setTop (mkF m pc Ls (.int x' :: st)))) : W p e below s R n0 Q (T.setTop (mkF m pc Ls (.int x :: st))) := by rw [q]; exact w
theorem w_topJ {x x' : Int64} (q : x = x') (w : W p e below s R n0 Q (T.setTop (mkF m pc Ls (.long x' :: st)))) : W p e below s R n0 Q (T.setTop (mkF m pc Ls (.long x :: st))) := by rw [q]; exact w
theorem Sn.size (X : Sn Z n0 bs mx own nm ret p l e R s m args below meth c T h cells slots) : n0 ≤ h.size := by obtain ⟨_, _, _, _, q, _⟩ := X; exact q
theorem Sn.more (X : Sn Z n0 bs mx own nm ret p l e R s m args below meth c T h cells slots) {cells' slots' : Nat} (q : cells ≤ cells' ∧ slots ≤ slots' ∧ cells' ≤ R.cells ∧ slots' ≤ R.slots) : Sn Z n0 bs mx own nm ret p l e R s m args below meth c T h cells' slots' := by
  obtain ⟨locs, X, r1, r2, r3, -, -, r⟩ := X; exact ⟨locs, X.more q.1 q.2.1, r1, r2, r3, q.2.2.1, q.2.2.2, r⟩
theorem w_iload (X : Sn Z n0 bs mx own nm ret p l e R s m args below meth c T h cells slots) {v : Int32} (hd : decode bs pc = .ok (.iload k, 2)) (hl : Ls[k]? = some (.val (.int v))) (hp : pc + 2 = pc')
    (w : W p e below s R n0 Q (T.setTop (mkF m pc' Ls (.int v :: st)))) : W p e below s R n0 Q (T.setTop (mkF m pc Ls (st))) := by
  obtain ⟨locs, X, eT, N, hs0, hcl, hsl, hx, hZ, rfl, hml, hown, hnm, hret, hlk⟩ := X
  subst hp
  exact W.of (fun t k => XS.iload X.here hx rfl hd hl k) w
theorem w_iloadN (X : Sn Z n0 bs mx own nm ret p l e R s m args below meth c T h cells slots) {v : Int32} {q : Fin 4} (hd : decode bs pc = .ok (.iload_n q, 1)) (hl : Ls[q.val]? = some (.val (.int v))) (hp : pc + 1 = pc')
    (w : W p e below s R n0 Q (T.setTop (mkF m pc' Ls (.int v :: st)))) : W p e below s R n0 Q (T.setTop (mkF m pc Ls (st))) := by
  obtain ⟨locs, X, eT, N, hs0, hcl, hsl, hx, hZ, rfl, hml, hown, hnm, hret, hlk⟩ := X
  subst hp
  exact W.of (fun t k => XS.iloadN X.here hx rfl hd hl k) w
theorem w_istore (X : Sn Z n0 bs mx own nm ret p l e R s m args below meth c T h cells slots) {v : Int32} (hd : decode bs pc = .ok (.istore k, 2)) (hl : storeLocals Ls k (.int v) = some L') (hp : pc + 2 = pc')
    (w : W p e below s R n0 Q (T.setTop (mkF m pc' L' (st)))) : W p e below s R n0 Q (T.setTop (mkF m pc Ls (.int v :: st))) := by
  obtain ⟨locs, X, eT, N, hs0, hcl, hsl, hx, hZ, rfl, hml, hown, hnm, hret, hlk⟩ := X
  subst hp
  exact W.of (fun t k => XS.istore X.here hx rfl hd rfl hl k) w
theorem w_istoreN (X : Sn Z n0 bs mx own nm ret p l e R s m args below meth c T h cells slots) {v : Int32} {q : Fin 4} (hd : decode bs pc = .ok (.istore_n q, 1)) (hl : storeLocals Ls q.val (.int v) = some L') (hp : pc + 1 = pc')
    (w : W p e below s R n0 Q (T.setTop (mkF m pc' L' (st)))) : W p e below s R n0 Q (T.setTop (mkF m pc Ls (.int v :: st))) := by
  obtain ⟨locs, X, eT, N, hs0, hcl, hsl, hx, hZ, rfl, hml, hown, hnm, hret, hlk⟩ := X
  subst hp
  exact W.of (fun t k => XS.istoreN X.here hx rfl hd rfl hl k) w
theorem w_lload (X : Sn Z n0 bs mx own nm ret p l e R s m args below meth c T h cells slots) {v : Int64} (hd : decode bs pc = .ok (.lload k, 2)) (hl : Ls[k]? = some (.val (.long v))) (hp : pc + 2 = pc')
    (w : W p e below s R n0 Q (T.setTop (mkF m pc' Ls (.long v :: st)))) : W p e below s R n0 Q (T.setTop (mkF m pc Ls (st))) := by
  obtain ⟨locs, X, eT, N, hs0, hcl, hsl, hx, hZ, rfl, hml, hown, hnm, hret, hlk⟩ := X
  subst hp
  exact W.of (fun t k => XS.lload X.here hx rfl hd hl k) w
theorem w_lloadN (X : Sn Z n0 bs mx own nm ret p l e R s m args below meth c T h cells slots) {v : Int64} {q : Fin 4} (hd : decode bs pc = .ok (.lload_n q, 1)) (hl : Ls[q.val]? = some (.val (.long v))) (hp : pc + 1 = pc')
    (w : W p e below s R n0 Q (T.setTop (mkF m pc' Ls (.long v :: st)))) : W p e below s R n0 Q (T.setTop (mkF m pc Ls (st))) := by
  obtain ⟨locs, X, eT, N, hs0, hcl, hsl, hx, hZ, rfl, hml, hown, hnm, hret, hlk⟩ := X
  subst hp
  exact W.of (fun t k => XS.lloadN X.here hx rfl hd hl k) w
theorem w_lstore (X : Sn Z n0 bs mx own nm ret p l e R s m args below meth c T h cells slots) {v : Int64} (hd : decode bs pc = .ok (.lstore k, 2)) (hl : storeLocals Ls k (.long v) = some L') (hp : pc + 2 = pc')
    (w : W p e below s R n0 Q (T.setTop (mkF m pc' L' (st)))) : W p e below s R n0 Q (T.setTop (mkF m pc Ls (.long v :: st))) := by
  obtain ⟨locs, X, eT, N, hs0, hcl, hsl, hx, hZ, rfl, hml, hown, hnm, hret, hlk⟩ := X
  subst hp
  exact W.of (fun t k => XS.lstore X.here hx rfl hd rfl hl k) w
theorem w_lstoreN (X : Sn Z n0 bs mx own nm ret p l e R s m args below meth c T h cells slots) {v : Int64} {q : Fin 4} (hd : decode bs pc = .ok (.lstore_n q, 1)) (hl : storeLocals Ls q.val (.long v) = some L') (hp : pc + 1 = pc')
    (w : W p e below s R n0 Q (T.setTop (mkF m pc' L' (st)))) : W p e below s R n0 Q (T.setTop (mkF m pc Ls (.long v :: st))) := by
  obtain ⟨locs, X, eT, N, hs0, hcl, hsl, hx, hZ, rfl, hml, hown, hnm, hret, hlk⟩ := X
  subst hp
  exact W.of (fun t k => XS.lstoreN X.here hx rfl hd rfl hl k) w
theorem w_aload (X : Sn Z n0 bs mx own nm ret p l e R s m args below meth c T h cells slots) {v : Value} (hd : decode bs pc = .ok (.aload k, 2)) (hl : Ls[k]? = some (.val v)) (hv : v.isRef = true) (hp : pc + 2 = pc')
    (w : W p e below s R n0 Q (T.setTop (mkF m pc' Ls (v :: st)))) : W p e below s R n0 Q (T.setTop (mkF m pc Ls (st))) := by
  obtain ⟨locs, X, eT, N, hs0, hcl, hsl, hx, hZ, rfl, hml, hown, hnm, hret, hlk⟩ := X
  subst hp
  exact W.of (fun t k => XS.aload X.here hx rfl hd hl hv k) w
theorem w_aloadN (X : Sn Z n0 bs mx own nm ret p l e R s m args below meth c T h cells slots) {v : Value} {q : Fin 4} (hd : decode bs pc = .ok (.aload_n q, 1)) (hl : Ls[q.val]? = some (.val v)) (hv : v.isRef = true) (hp : pc + 1 = pc')
    (w : W p e below s R n0 Q (T.setTop (mkF m pc' Ls (v :: st)))) : W p e below s R n0 Q (T.setTop (mkF m pc Ls (st))) := by
  obtain ⟨locs, X, eT, N, hs0, hcl, hsl, hx, hZ, rfl, hml, hown, hnm, hret, hlk⟩ := X
  subst hp
  exact W.of (fun t k => XS.aloadN X.here hx rfl hd hl hv k) w
theorem w_astore (X : Sn Z n0 bs mx own nm ret p l e R s m args below meth c T h cells slots) {v : Value} (hd : decode bs pc = .ok (.astore k, 2)) (hv : v.isRef = true) (hl : storeLocals Ls k v = some L') (hp : pc + 2 = pc')
    (w : W p e below s R n0 Q (T.setTop (mkF m pc' L' (st)))) : W p e below s R n0 Q (T.setTop (mkF m pc Ls (v :: st))) := by
  obtain ⟨locs, X, eT, N, hs0, hcl, hsl, hx, hZ, rfl, hml, hown, hnm, hret, hlk⟩ := X
  subst hp
  exact W.of (fun t k => XS.astore X.here hx rfl hd rfl hv hl k) w
theorem w_astoreN (X : Sn Z n0 bs mx own nm ret p l e R s m args below meth c T h cells slots) {v : Value} {q : Fin 4} (hd : decode bs pc = .ok (.astore_n q, 1)) (hv : v.isRef = true) (hl : storeLocals Ls q.val v = some L') (hp : pc + 1 = pc')
    (w : W p e below s R n0 Q (T.setTop (mkF m pc' L' (st)))) : W p e below s R n0 Q (T.setTop (mkF m pc Ls (v :: st))) := by
  obtain ⟨locs, X, eT, N, hs0, hcl, hsl, hx, hZ, rfl, hml, hown, hnm, hret, hlk⟩ := X
  subst hp
  exact W.of (fun t k => XS.astoreN X.here hx rfl hd rfl hv hl k) w
theorem w_iconst (X : Sn Z n0 bs mx own nm ret p l e R s m args below meth c T h cells slots) {z : Int32} (hd : decode bs pc = .ok (.iconst o, 1)) (hz : Int32.ofInt o = z) (hp : pc + 1 = pc')
    (w : W p e below s R n0 Q (T.setTop (mkF m pc' Ls (.int z :: st)))) : W p e below s R n0 Q (T.setTop (mkF m pc Ls (st))) := by
  obtain ⟨locs, X, eT, N, hs0, hcl, hsl, hx, hZ, rfl, hml, hown, hnm, hret, hlk⟩ := X
  subst hp
  exact W.of (fun t k => by subst hz; exact XS.iconst X.here hx rfl hd k) w
theorem w_bipush (X : Sn Z n0 bs mx own nm ret p l e R s m args below meth c T h cells slots) {z : Int32} (hd : decode bs pc = .ok (.bipush o, 2)) (hz : (Int8.ofInt o).toInt32 = z) (hp : pc + 2 = pc')
    (w : W p e below s R n0 Q (T.setTop (mkF m pc' Ls (.int z :: st)))) : W p e below s R n0 Q (T.setTop (mkF m pc Ls (st))) := by
  obtain ⟨locs, X, eT, N, hs0, hcl, hsl, hx, hZ, rfl, hml, hown, hnm, hret, hlk⟩ := X
  subst hp
  exact W.of (fun t k => by subst hz; exact XS.bipush X.here hx rfl hd k) w
theorem w_sipush (X : Sn Z n0 bs mx own nm ret p l e R s m args below meth c T h cells slots) {z : Int32} (hd : decode bs pc = .ok (.sipush o, 3)) (hz : (Int16.ofInt o).toInt32 = z) (hp : pc + 3 = pc')
    (w : W p e below s R n0 Q (T.setTop (mkF m pc' Ls (.int z :: st)))) : W p e below s R n0 Q (T.setTop (mkF m pc Ls (st))) := by
  obtain ⟨locs, X, eT, N, hs0, hcl, hsl, hx, hZ, rfl, hml, hown, hnm, hret, hlk⟩ := X
  subst hp
  exact W.of (fun t k => by subst hz; exact XS.sipush X.here hx rfl hd k) w
theorem w_lconst (X : Sn Z n0 bs mx own nm ret p l e R s m args below meth c T h cells slots) {z : Int64} {q : Fin 2} (hd : decode bs pc = .ok (.lconst q, 1)) (hz : Int64.ofNat q = z) (hp : pc + 1 = pc')
    (w : W p e below s R n0 Q (T.setTop (mkF m pc' Ls (.long z :: st)))) : W p e below s R n0 Q (T.setTop (mkF m pc Ls (st))) := by
  obtain ⟨locs, X, eT, N, hs0, hcl, hsl, hx, hZ, rfl, hml, hown, hnm, hret, hlk⟩ := X
  subst hp
  exact W.of (fun t k => by subst hz; exact XS.lconst X.here hx rfl hd k) w
theorem w_aconst_null (X : Sn Z n0 bs mx own nm ret p l e R s m args below meth c T h cells slots) (hd : decode bs pc = .ok (.aconst_null, 1)) (hp : pc + 1 = pc')
    (w : W p e below s R n0 Q (T.setTop (mkF m pc' Ls (.null :: st)))) : W p e below s R n0 Q (T.setTop (mkF m pc Ls (st))) := by
  obtain ⟨locs, X, eT, N, hs0, hcl, hsl, hx, hZ, rfl, hml, hown, hnm, hret, hlk⟩ := X
  subst hp
  exact W.of (fun t k => XS.aconstNull X.here hx rfl hd k) w
theorem w_ldc (X : Sn Z n0 bs mx own nm ret p l e R s m args below meth c T h cells slots) {z : Int32} {q : Nat} (hd : decode bs pc = .ok (.ldc q, 2)) (hw : (Cond.constant own q z).before a0 Z = true) (hp : pc + 2 = pc')
    (w : W p e below s R n0 Q (T.setTop (mkF m pc' Ls (.int z :: st)))) : W p e below s R n0 Q (T.setTop (mkF m pc Ls (st))) := by
  obtain ⟨locs, X, eT, N, hs0, hcl, hsl, hx, hZ, rfl, hml, hown, hnm, hret, hlk⟩ := X
  subst hp
  exact W.of (fun t k => X.ldcInt (own := own) (v := z) hx hown (mvT (args := args) (s := s) hZ hw rfl) (g := mkF m pc Ls st) rfl hd _ k) w
theorem w_ldc2 (X : Sn Z n0 bs mx own nm ret p l e R s m args below meth c T h cells slots) {z : Int64} {q : Nat} (hd : decode bs pc = .ok (.ldc2_w q, 3)) (hw : (Cond.constantLong own q z).before a0 Z = true) (hp : pc + 3 = pc')
    (w : W p e below s R n0 Q (T.setTop (mkF m pc' Ls (.long z :: st)))) : W p e below s R n0 Q (T.setTop (mkF m pc Ls (st))) := by
  obtain ⟨locs, X, eT, N, hs0, hcl, hsl, hx, hZ, rfl, hml, hown, hnm, hret, hlk⟩ := X
  subst hp
  exact W.of (fun t k => X.ldc2Long (own := own) (v := z) hx hown (mvT (args := args) (s := s) hZ hw rfl) (g := mkF m pc Ls st) rfl hd _ k) w
theorem w_iadd (X : Sn Z n0 bs mx own nm ret p l e R s m args below meth c T h cells slots) {x y : Int32} (hd : decode bs pc = .ok (.iadd, 1)) (hp : pc + 1 = pc')
    (w : W p e below s R n0 Q (T.setTop (mkF m pc' Ls (.int (x + y) :: st)))) : W p e below s R n0 Q (T.setTop (mkF m pc Ls (.int y :: .int x :: st))) := by
  obtain ⟨locs, X, eT, N, hs0, hcl, hsl, hx, hZ, rfl, hml, hown, hnm, hret, hlk⟩ := X
  subst hp
  exact W.of (fun t k => XS.iadd X.here hx rfl hd rfl k) w
theorem w_ladd (X : Sn Z n0 bs mx own nm ret p l e R s m args below meth c T h cells slots) {x y : Int64} (hd : decode bs pc = .ok (.ladd, 1)) (hp : pc + 1 = pc')
    (w : W p e below s R n0 Q (T.setTop (mkF m pc' Ls (.long (x + y) :: st)))) : W p e below s R n0 Q (T.setTop (mkF m pc Ls (.long y :: .long x :: st))) := by
  obtain ⟨locs, X, eT, N, hs0, hcl, hsl, hx, hZ, rfl, hml, hown, hnm, hret, hlk⟩ := X
  subst hp
  exact W.of (fun t k => XS.ladd X.here hx rfl hd rfl k) w
theorem w_isub (X : Sn Z n0 bs mx own nm ret p l e R s m args below meth c T h cells slots) {x y : Int32} (hd : decode bs pc = .ok (.isub, 1)) (hp : pc + 1 = pc')
    (w : W p e below s R n0 Q (T.setTop (mkF m pc' Ls (.int (x - y) :: st)))) : W p e below s R n0 Q (T.setTop (mkF m pc Ls (.int y :: .int x :: st))) := by
  obtain ⟨locs, X, eT, N, hs0, hcl, hsl, hx, hZ, rfl, hml, hown, hnm, hret, hlk⟩ := X
  subst hp
  exact W.of (fun t k => XS.isub X.here hx rfl hd rfl k) w
theorem w_lsub (X : Sn Z n0 bs mx own nm ret p l e R s m args below meth c T h cells slots) {x y : Int64} (hd : decode bs pc = .ok (.lsub, 1)) (hp : pc + 1 = pc')
    (w : W p e below s R n0 Q (T.setTop (mkF m pc' Ls (.long (x - y) :: st)))) : W p e below s R n0 Q (T.setTop (mkF m pc Ls (.long y :: .long x :: st))) := by
  obtain ⟨locs, X, eT, N, hs0, hcl, hsl, hx, hZ, rfl, hml, hown, hnm, hret, hlk⟩ := X
  subst hp
  exact W.of (fun t k => XS.lsub X.here hx rfl hd rfl k) w
theorem w_imul (X : Sn Z n0 bs mx own nm ret p l e R s m args below meth c T h cells slots) {x y : Int32} (hd : decode bs pc = .ok (.imul, 1)) (hp : pc + 1 = pc')
    (w : W p e below s R n0 Q (T.setTop (mkF m pc' Ls (.int (x * y) :: st)))) : W p e below s R n0 Q (T.setTop (mkF m pc Ls (.int y :: .int x :: st))) := by
  obtain ⟨locs, X, eT, N, hs0, hcl, hsl, hx, hZ, rfl, hml, hown, hnm, hret, hlk⟩ := X
  subst hp
  exact W.of (fun t k => XS.imul X.here hx rfl hd rfl k) w
theorem w_lmul (X : Sn Z n0 bs mx own nm ret p l e R s m args below meth c T h cells slots) {x y : Int64} (hd : decode bs pc = .ok (.lmul, 1)) (hp : pc + 1 = pc')
    (w : W p e below s R n0 Q (T.setTop (mkF m pc' Ls (.long (x * y) :: st)))) : W p e below s R n0 Q (T.setTop (mkF m pc Ls (.long y :: .long x :: st))) := by
  obtain ⟨locs, X, eT, N, hs0, hcl, hsl, hx, hZ, rfl, hml, hown, hnm, hret, hlk⟩ := X
  subst hp
  exact W.of (fun t k => XS.lmul X.here hx rfl hd rfl k) w
theorem w_iand (X : Sn Z n0 bs mx own nm ret p l e R s m args below meth c T h cells slots) {x y : Int32} (hd : decode bs pc = .ok (.iand, 1)) (hp : pc + 1 = pc')
    (w : W p e below s R n0 Q (T.setTop (mkF m pc' Ls (.int (x &&& y) :: st)))) : W p e below s R n0 Q (T.setTop (mkF m pc Ls (.int y :: .int x :: st))) := by
  obtain ⟨locs, X, eT, N, hs0, hcl, hsl, hx, hZ, rfl, hml, hown, hnm, hret, hlk⟩ := X
  subst hp
  exact W.of (fun t k => XS.iand X.here hx rfl hd rfl k) w
theorem w_land (X : Sn Z n0 bs mx own nm ret p l e R s m args below meth c T h cells slots) {x y : Int64} (hd : decode bs pc = .ok (.land, 1)) (hp : pc + 1 = pc')
    (w : W p e below s R n0 Q (T.setTop (mkF m pc' Ls (.long (x &&& y) :: st)))) : W p e below s R n0 Q (T.setTop (mkF m pc Ls (.long y :: .long x :: st))) := by
  obtain ⟨locs, X, eT, N, hs0, hcl, hsl, hx, hZ, rfl, hml, hown, hnm, hret, hlk⟩ := X
  subst hp
  exact W.of (fun t k => XS.land X.here hx rfl hd rfl k) w
theorem w_ior (X : Sn Z n0 bs mx own nm ret p l e R s m args below meth c T h cells slots) {x y : Int32} (hd : decode bs pc = .ok (.ior, 1)) (hp : pc + 1 = pc')
    (w : W p e below s R n0 Q (T.setTop (mkF m pc' Ls (.int (x ||| y) :: st)))) : W p e below s R n0 Q (T.setTop (mkF m pc Ls (.int y :: .int x :: st))) := by
  obtain ⟨locs, X, eT, N, hs0, hcl, hsl, hx, hZ, rfl, hml, hown, hnm, hret, hlk⟩ := X
  subst hp
  exact W.of (fun t k => XS.ior X.here hx rfl hd rfl k) w
theorem w_lor (X : Sn Z n0 bs mx own nm ret p l e R s m args below meth c T h cells slots) {x y : Int64} (hd : decode bs pc = .ok (.lor, 1)) (hp : pc + 1 = pc')
    (w : W p e below s R n0 Q (T.setTop (mkF m pc' Ls (.long (x ||| y) :: st)))) : W p e below s R n0 Q (T.setTop (mkF m pc Ls (.long y :: .long x :: st))) := by
  obtain ⟨locs, X, eT, N, hs0, hcl, hsl, hx, hZ, rfl, hml, hown, hnm, hret, hlk⟩ := X
  subst hp
  exact W.of (fun t k => XS.lor X.here hx rfl hd rfl k) w
theorem w_ixor (X : Sn Z n0 bs mx own nm ret p l e R s m args below meth c T h cells slots) {x y : Int32} (hd : decode bs pc = .ok (.ixor, 1)) (hp : pc + 1 = pc')
    (w : W p e below s R n0 Q (T.setTop (mkF m pc' Ls (.int (x ^^^ y) :: st)))) : W p e below s R n0 Q (T.setTop (mkF m pc Ls (.int y :: .int x :: st))) := by
  obtain ⟨locs, X, eT, N, hs0, hcl, hsl, hx, hZ, rfl, hml, hown, hnm, hret, hlk⟩ := X
  subst hp
  exact W.of (fun t k => XS.ixor X.here hx rfl hd rfl k) w
theorem w_lxor (X : Sn Z n0 bs mx own nm ret p l e R s m args below meth c T h cells slots) {x y : Int64} (hd : decode bs pc = .ok (.lxor, 1)) (hp : pc + 1 = pc')
    (w : W p e below s R n0 Q (T.setTop (mkF m pc' Ls (.long (x ^^^ y) :: st)))) : W p e below s R n0 Q (T.setTop (mkF m pc Ls (.long y :: .long x :: st))) := by
  obtain ⟨locs, X, eT, N, hs0, hcl, hsl, hx, hZ, rfl, hml, hown, hnm, hret, hlk⟩ := X
  subst hp
  exact W.of (fun t k => XS.lxor X.here hx rfl hd rfl k) w
theorem w_ishl (X : Sn Z n0 bs mx own nm ret p l e R s m args below meth c T h cells slots) {x y : Int32} (hd : decode bs pc = .ok (.ishl, 1)) (hp : pc + 1 = pc')
    (w : W p e below s R n0 Q (T.setTop (mkF m pc' Ls (.int (isl x y) :: st)))) : W p e below s R n0 Q (T.setTop (mkF m pc Ls (.int y :: .int x :: st))) := by
  obtain ⟨locs, X, eT, N, hs0, hcl, hsl, hx, hZ, rfl, hml, hown, hnm, hret, hlk⟩ := X
  subst hp
  exact W.of (fun t k => XS.ishl X.here hx rfl hd rfl k) w
theorem w_ishr (X : Sn Z n0 bs mx own nm ret p l e R s m args below meth c T h cells slots) {x y : Int32} (hd : decode bs pc = .ok (.ishr, 1)) (hp : pc + 1 = pc')
    (w : W p e below s R n0 Q (T.setTop (mkF m pc' Ls (.int (isr x y) :: st)))) : W p e below s R n0 Q (T.setTop (mkF m pc Ls (.int y :: .int x :: st))) := by
  obtain ⟨locs, X, eT, N, hs0, hcl, hsl, hx, hZ, rfl, hml, hown, hnm, hret, hlk⟩ := X
  subst hp
  exact W.of (fun t k => XS.ishr X.here hx rfl hd rfl k) w
theorem w_iushr (X : Sn Z n0 bs mx own nm ret p l e R s m args below meth c T h cells slots) {x y : Int32} (hd : decode bs pc = .ok (.iushr, 1)) (hp : pc + 1 = pc')
    (w : W p e below s R n0 Q (T.setTop (mkF m pc' Ls (.int (ius x y) :: st)))) : W p e below s R n0 Q (T.setTop (mkF m pc Ls (.int y :: .int x :: st))) := by
  obtain ⟨locs, X, eT, N, hs0, hcl, hsl, hx, hZ, rfl, hml, hown, hnm, hret, hlk⟩ := X
  subst hp
  exact W.of (fun t k => XS.iushr X.here hx rfl hd rfl k) w
theorem w_lshl (X : Sn Z n0 bs mx own nm ret p l e R s m args below meth c T h cells slots) {x : Int64} {y : Int32} (hd : decode bs pc = .ok (.lshl, 1)) (hp : pc + 1 = pc')
    (w : W p e below s R n0 Q (T.setTop (mkF m pc' Ls (.long (lsl x y) :: st)))) : W p e below s R n0 Q (T.setTop (mkF m pc Ls (.int y :: .long x :: st))) := by
  obtain ⟨locs, X, eT, N, hs0, hcl, hsl, hx, hZ, rfl, hml, hown, hnm, hret, hlk⟩ := X
  subst hp
  exact W.of (fun t k => XS.lshl X.here hx rfl hd rfl k) w
theorem w_lshr (X : Sn Z n0 bs mx own nm ret p l e R s m args below meth c T h cells slots) {x : Int64} {y : Int32} (hd : decode bs pc = .ok (.lshr, 1)) (hp : pc + 1 = pc')
    (w : W p e below s R n0 Q (T.setTop (mkF m pc' Ls (.long (lsr x y) :: st)))) : W p e below s R n0 Q (T.setTop (mkF m pc Ls (.int y :: .long x :: st))) := by
  obtain ⟨locs, X, eT, N, hs0, hcl, hsl, hx, hZ, rfl, hml, hown, hnm, hret, hlk⟩ := X
  subst hp
  exact W.of (fun t k => XS.lshr X.here hx rfl hd rfl k) w
theorem w_lushr (X : Sn Z n0 bs mx own nm ret p l e R s m args below meth c T h cells slots) {x : Int64} {y : Int32} (hd : decode bs pc = .ok (.lushr, 1)) (hp : pc + 1 = pc')
    (w : W p e below s R n0 Q (T.setTop (mkF m pc' Ls (.long (lus x y) :: st)))) : W p e below s R n0 Q (T.setTop (mkF m pc Ls (.int y :: .long x :: st))) := by
  obtain ⟨locs, X, eT, N, hs0, hcl, hsl, hx, hZ, rfl, hml, hown, hnm, hret, hlk⟩ := X
  subst hp
  exact W.of (fun t k => XS.lushr X.here hx rfl hd rfl k) w
theorem w_idiv (X : Sn Z n0 bs mx own nm ret p l e R s m args below meth c T h cells slots) {x y : Int32} (hd : decode bs pc = .ok (.idiv, 1)) (hy : y ≠ 0) (hp : pc + 1 = pc')
    (w : W p e below s R n0 Q (T.setTop (mkF m pc' Ls (.int (x / y) :: st)))) : W p e below s R n0 Q (T.setTop (mkF m pc Ls (.int y :: .int x :: st))) := by
  obtain ⟨locs, X, eT, N, hs0, hcl, hsl, hx, hZ, rfl, hml, hown, hnm, hret, hlk⟩ := X
  subst hp
  exact W.of (fun t k => XS.idiv X.here hx rfl hd rfl hy k) w
theorem w_irem (X : Sn Z n0 bs mx own nm ret p l e R s m args below meth c T h cells slots) {x y : Int32} (hd : decode bs pc = .ok (.irem, 1)) (hy : y ≠ 0) (hp : pc + 1 = pc')
    (w : W p e below s R n0 Q (T.setTop (mkF m pc' Ls (.int (x % y) :: st)))) : W p e below s R n0 Q (T.setTop (mkF m pc Ls (.int y :: .int x :: st))) := by
  obtain ⟨locs, X, eT, N, hs0, hcl, hsl, hx, hZ, rfl, hml, hown, hnm, hret, hlk⟩ := X
  subst hp
  exact W.of (fun t k => iremM X hx rfl hd rfl hy k) w
theorem w_ineg (X : Sn Z n0 bs mx own nm ret p l e R s m args below meth c T h cells slots) {x : Int32} (hd : decode bs pc = .ok (.ineg, 1)) (hp : pc + 1 = pc')
    (w : W p e below s R n0 Q (T.setTop (mkF m pc' Ls (.int (-x) :: st)))) : W p e below s R n0 Q (T.setTop (mkF m pc Ls (.int x :: st))) := by
  obtain ⟨locs, X, eT, N, hs0, hcl, hsl, hx, hZ, rfl, hml, hown, hnm, hret, hlk⟩ := X
  subst hp
  exact W.of (fun t k => XS.ineg X.here hx rfl hd rfl k) w
theorem w_lneg (X : Sn Z n0 bs mx own nm ret p l e R s m args below meth c T h cells slots) {x : Int64} (hd : decode bs pc = .ok (.lneg, 1)) (hp : pc + 1 = pc')
    (w : W p e below s R n0 Q (T.setTop (mkF m pc' Ls (.long (-x) :: st)))) : W p e below s R n0 Q (T.setTop (mkF m pc Ls (.long x :: st))) := by
  obtain ⟨locs, X, eT, N, hs0, hcl, hsl, hx, hZ, rfl, hml, hown, hnm, hret, hlk⟩ := X
  subst hp
  exact W.of (fun t k => XS.lneg X.here hx rfl hd rfl k) w
theorem w_i2l (X : Sn Z n0 bs mx own nm ret p l e R s m args below meth c T h cells slots) {x : Int32} (hd : decode bs pc = .ok (.i2l, 1)) (hp : pc + 1 = pc')
    (w : W p e below s R n0 Q (T.setTop (mkF m pc' Ls (.long x.toInt64 :: st)))) : W p e below s R n0 Q (T.setTop (mkF m pc Ls (.int x :: st))) := by
  obtain ⟨locs, X, eT, N, hs0, hcl, hsl, hx, hZ, rfl, hml, hown, hnm, hret, hlk⟩ := X
  subst hp
  exact W.of (fun t k => XS.i2l X.here hx rfl hd rfl k) w
theorem w_l2i (X : Sn Z n0 bs mx own nm ret p l e R s m args below meth c T h cells slots) {x : Int64} (hd : decode bs pc = .ok (.l2i, 1)) (hp : pc + 1 = pc')
    (w : W p e below s R n0 Q (T.setTop (mkF m pc' Ls (.int x.toInt32 :: st)))) : W p e below s R n0 Q (T.setTop (mkF m pc Ls (.long x :: st))) := by
  obtain ⟨locs, X, eT, N, hs0, hcl, hsl, hx, hZ, rfl, hml, hown, hnm, hret, hlk⟩ := X
  subst hp
  exact W.of (fun t k => XS.l2i X.here hx rfl hd rfl k) w
theorem w_i2b (X : Sn Z n0 bs mx own nm ret p l e R s m args below meth c T h cells slots) {x : Int32} (hd : decode bs pc = .ok (.i2b, 1)) (hp : pc + 1 = pc')
    (w : W p e below s R n0 Q (T.setTop (mkF m pc' Ls (.int x.toInt8.toInt32 :: st)))) : W p e below s R n0 Q (T.setTop (mkF m pc Ls (.int x :: st))) := by
  obtain ⟨locs, X, eT, N, hs0, hcl, hsl, hx, hZ, rfl, hml, hown, hnm, hret, hlk⟩ := X
  subst hp
  exact W.of (fun t k => XS.i2b X.here hx rfl hd rfl k) w
theorem w_i2s (X : Sn Z n0 bs mx own nm ret p l e R s m args below meth c T h cells slots) {x : Int32} (hd : decode bs pc = .ok (.i2s, 1)) (hp : pc + 1 = pc')
    (w : W p e below s R n0 Q (T.setTop (mkF m pc' Ls (.int x.toInt16.toInt32 :: st)))) : W p e below s R n0 Q (T.setTop (mkF m pc Ls (.int x :: st))) := by
  obtain ⟨locs, X, eT, N, hs0, hcl, hsl, hx, hZ, rfl, hml, hown, hnm, hret, hlk⟩ := X
  subst hp
  exact W.of (fun t k => XS.i2s X.here hx rfl hd rfl k) w
theorem w_dup (X : Sn Z n0 bs mx own nm ret p l e R s m args below meth c T h cells slots) {v : Value} (hd : decode bs pc = .ok (.dup, 1)) (hv : v.category = 1) (hp : pc + 1 = pc')
    (w : W p e below s R n0 Q (T.setTop (mkF m pc' Ls (v :: v :: st)))) : W p e below s R n0 Q (T.setTop (mkF m pc Ls (v :: st))) := by
  obtain ⟨locs, X, eT, N, hs0, hcl, hsl, hx, hZ, rfl, hml, hown, hnm, hret, hlk⟩ := X
  subst hp
  exact W.of (fun t k => XS.dup X.here hx rfl hd rfl hv k) w
theorem w_dup2 (X : Sn Z n0 bs mx own nm ret p l e R s m args below meth c T h cells slots) {v u : Value} (hd : decode bs pc = .ok (.dup2, 1)) (hv : v.category = 1) (hu : u.category = 1) (hp : pc + 1 = pc')
    (w : W p e below s R n0 Q (T.setTop (mkF m pc' Ls (v :: u :: v :: u :: st)))) : W p e below s R n0 Q (T.setTop (mkF m pc Ls (v :: u :: st))) := by
  obtain ⟨locs, X, eT, N, hs0, hcl, hsl, hx, hZ, rfl, hml, hown, hnm, hret, hlk⟩ := X
  subst hp
  exact W.of (fun t k => XT.dup2 X.here hx rfl hd rfl hv hu k) w
theorem w_pop (X : Sn Z n0 bs mx own nm ret p l e R s m args below meth c T h cells slots) {v : Value} (hd : decode bs pc = .ok (.pop, 1)) (hv : v.category = 1) (hp : pc + 1 = pc')
    (w : W p e below s R n0 Q (T.setTop (mkF m pc' Ls (st)))) : W p e below s R n0 Q (T.setTop (mkF m pc Ls (v :: st))) := by
  obtain ⟨locs, X, eT, N, hs0, hcl, hsl, hx, hZ, rfl, hml, hown, hnm, hret, hlk⟩ := X
  subst hp
  exact W.of (fun t k => XS.pop X.here hx rfl hd rfl hv k) w
theorem w_iinc (X : Sn Z n0 bs mx own nm ret p l e R s m args below meth c T h cells slots) {x z : Int32} (hd : decode bs pc = .ok (.iinc k o, 3)) (hl : Ls[k]? = some (.val (.int x))) (hz : x + Int32.ofInt o = z) (hl' : storeLocals Ls k (.int z) = some L') (hp : pc + 3 = pc')
    (w : W p e below s R n0 Q (T.setTop (mkF m pc' L' (st)))) : W p e below s R n0 Q (T.setTop (mkF m pc Ls (st))) := by
  obtain ⟨locs, X, eT, N, hs0, hcl, hsl, hx, hZ, rfl, hml, hown, hnm, hret, hlk⟩ := X
  subst hp hz
  exact W.of (fun t k => XS.iinc X.here hx rfl hd hl hl' k) w
theorem w_goto (X : Sn Z n0 bs mx own nm ret p l e R s m args below meth c T h cells slots) (hd : decode bs pc = .ok (.goto o, 3)) (hp : 0 ≤ (pc : Int) + o ∧ ((pc : Int) + o).toNat = pc')
    (w : W p e below s R n0 Q (T.setTop (mkF m pc' Ls (st)))) : W p e below s R n0 Q (T.setTop (mkF m pc Ls (st))) := by
  obtain ⟨locs, X, eT, N, hs0, hcl, hsl, hx, hZ, rfl, hml, hown, hnm, hret, hlk⟩ := X
  exact W.of (fun t k => XS.goto X.here hx rfl rfl hd hp.1 hp.2 k) w
theorem hI_eq {x y : Int32} : if_icmp.holds .eq x y = decide (x = y) := by by_cases q : x = y <;> simp [q, (teq · |>.1), (feq · |>.1)]
theorem hI_ne {x y : Int32} : if_icmp.holds .ne x y = decide (x ≠ y) := by by_cases q : x = y <;> simp [q, (teq · |>.2), (feq · |>.2)]
theorem hI_lt {x y : Int32} : if_icmp.holds .lt x y = decide (x.toInt < y.toInt) := by
  by_cases q : x < y
  · rw [(tlt q).1]; exact (decide_eq_true (Int32.lt_iff_toInt_lt.mp q)).symm
  · rw [(flt q).1]; exact (decide_eq_false fun z => q (Int32.lt_iff_toInt_lt.mpr z)).symm
theorem hI_ge {x y : Int32} : if_icmp.holds .ge x y = decide (x.toInt ≥ y.toInt) := by
  by_cases q : x < y
  · rw [(tlt q).2.1]; exact (decide_eq_false fun z => by have := Int32.lt_iff_toInt_lt.mp q; omega).symm
  · rw [(flt q).2.1]; exact (decide_eq_true (by rw [Int32.lt_iff_toInt_lt] at q; omega)).symm
theorem hI_gt {x y : Int32} : if_icmp.holds .gt x y = decide (x.toInt > y.toInt) := by
  by_cases q : y < x
  · rw [(tlt q).2.2.1]; exact (decide_eq_true (Int32.lt_iff_toInt_lt.mp q)).symm
  · rw [(flt q).2.2.1]; exact (decide_eq_false fun z => q (Int32.lt_iff_toInt_lt.mpr z)).symm
theorem hI_le {x y : Int32} : if_icmp.holds .le x y = decide (x.toInt ≤ y.toInt) := by
  by_cases q : y < x
  · rw [(tlt q).2.2.2]; exact (decide_eq_false fun z => by have := Int32.lt_iff_toInt_lt.mp q; omega).symm
  · rw [(flt q).2.2.2]; exact (decide_eq_true (by rw [Int32.lt_iff_toInt_lt] at q; omega)).symm
theorem w_icmp_eq (X : Sn Z n0 bs mx own nm ret p l e R s m args below meth c T h cells slots) {x y : Int32} (hd : decode bs pc = .ok (.if_icmp .eq o, 3)) (hp : 0 ≤ (pc : Int) + o ∧ ((pc : Int) + o).toNat = pc1 ∧ pc + 3 = pc2)
    (yes : x = y → W p e below s R n0 Q (T.setTop (mkF m pc1 Ls (st)))) (no : x ≠ y → W p e below s R n0 Q (T.setTop (mkF m pc2 Ls (st)))) : W p e below s R n0 Q (T.setTop (mkF m pc Ls (.int y :: .int x :: st))) := by
  obtain ⟨locs, X, eT, N, hs0, hcl, hsl, hx, hZ, rfl, hml, hown, hnm, hret, hlk⟩ := X
  by_cases z : x = y
  · exact W.of (fun t k => XS.icmpYes X.here hx rfl rfl hd rfl (hI_eq.trans (decide_eq_true z)) hp.1 hp.2.1 k) (yes z)
  · have w := no (z)
    rw [← hp.2.2] at w
    exact W.of (fun t k => XS.icmpNo X.here hx rfl hd rfl (hI_eq.trans (decide_eq_false z)) k) w
theorem w_if_eq (X : Sn Z n0 bs mx own nm ret p l e R s m args below meth c T h cells slots) {x : Int32} (hd : decode bs pc = .ok (.ifCond .eq o, 3)) (hp : 0 ≤ (pc : Int) + o ∧ ((pc : Int) + o).toNat = pc1 ∧ pc + 3 = pc2)
    (yes : x = 0 → W p e below s R n0 Q (T.setTop (mkF m pc1 Ls (st)))) (no : x ≠ 0 → W p e below s R n0 Q (T.setTop (mkF m pc2 Ls (st)))) : W p e below s R n0 Q (T.setTop (mkF m pc Ls (.int x :: st))) := by
  obtain ⟨locs, X, eT, N, hs0, hcl, hsl, hx, hZ, rfl, hml, hown, hnm, hret, hlk⟩ := X
  have hq : ifCond.holds .eq x = decide (x = 0) := (if0 _ _).trans hI_eq
  by_cases z : x = 0
  · exact W.of (fun t k => XS.ifYes X.here hx rfl rfl hd rfl (hq.trans (decide_eq_true z)) hp.1 hp.2.1 k) (yes z)
  · have w := no (z)
    rw [← hp.2.2] at w
    exact W.of (fun t k => XS.ifNo X.here hx rfl hd rfl (hq.trans (decide_eq_false z)) k) w
theorem w_icmp_ne (X : Sn Z n0 bs mx own nm ret p l e R s m args below meth c T h cells slots) {x y : Int32} (hd : decode bs pc = .ok (.if_icmp .ne o, 3)) (hp : 0 ≤ (pc : Int) + o ∧ ((pc : Int) + o).toNat = pc1 ∧ pc + 3 = pc2)
    (yes : x ≠ y → W p e below s R n0 Q (T.setTop (mkF m pc1 Ls (st)))) (no : x = y → W p e below s R n0 Q (T.setTop (mkF m pc2 Ls (st)))) : W p e below s R n0 Q (T.setTop (mkF m pc Ls (.int y :: .int x :: st))) := by
  obtain ⟨locs, X, eT, N, hs0, hcl, hsl, hx, hZ, rfl, hml, hown, hnm, hret, hlk⟩ := X
  by_cases z : x ≠ y
  · exact W.of (fun t k => XS.icmpYes X.here hx rfl rfl hd rfl (hI_ne.trans (decide_eq_true z)) hp.1 hp.2.1 k) (yes z)
  · have w := no (Classical.byContradiction fun u => z u)
    rw [← hp.2.2] at w
    exact W.of (fun t k => XS.icmpNo X.here hx rfl hd rfl (hI_ne.trans (decide_eq_false z)) k) w
theorem w_if_ne (X : Sn Z n0 bs mx own nm ret p l e R s m args below meth c T h cells slots) {x : Int32} (hd : decode bs pc = .ok (.ifCond .ne o, 3)) (hp : 0 ≤ (pc : Int) + o ∧ ((pc : Int) + o).toNat = pc1 ∧ pc + 3 = pc2)
    (yes : x ≠ 0 → W p e below s R n0 Q (T.setTop (mkF m pc1 Ls (st)))) (no : x = 0 → W p e below s R n0 Q (T.setTop (mkF m pc2 Ls (st)))) : W p e below s R n0 Q (T.setTop (mkF m pc Ls (.int x :: st))) := by
  obtain ⟨locs, X, eT, N, hs0, hcl, hsl, hx, hZ, rfl, hml, hown, hnm, hret, hlk⟩ := X
  have hq : ifCond.holds .ne x = decide (x ≠ 0) := (if0 _ _).trans hI_ne
  by_cases z : x ≠ 0
  · exact W.of (fun t k => XS.ifYes X.here hx rfl rfl hd rfl (hq.trans (decide_eq_true z)) hp.1 hp.2.1 k) (yes z)
  · have w := no (Classical.byContradiction fun u => z u)
    rw [← hp.2.2] at w
    exact W.of (fun t k => XS.ifNo X.here hx rfl hd rfl (hq.trans (decide_eq_false z)) k) w
theorem w_icmp_lt (X : Sn Z n0 bs mx own nm ret p l e R s m args below meth c T h cells slots) {x y : Int32} (hd : decode bs pc = .ok (.if_icmp .lt o, 3)) (hp : 0 ≤ (pc : Int) + o ∧ ((pc : Int) + o).toNat = pc1 ∧ pc + 3 = pc2)
    (yes : x.toInt < y.toInt → W p e below s R n0 Q (T.setTop (mkF m pc1 Ls (st)))) (no : x.toInt ≥ y.toInt → W p e below s R n0 Q (T.setTop (mkF m pc2 Ls (st)))) : W p e below s R n0 Q (T.setTop (mkF m pc Ls (.int y :: .int x :: st))) := by
  obtain ⟨locs, X, eT, N, hs0, hcl, hsl, hx, hZ, rfl, hml, hown, hnm, hret, hlk⟩ := X
  by_cases z : x.toInt < y.toInt
  · exact W.of (fun t k => XS.icmpYes X.here hx rfl rfl hd rfl (hI_lt.trans (decide_eq_true z)) hp.1 hp.2.1 k) (yes z)
  · have w := no (Int.not_lt.mp z)
    rw [← hp.2.2] at w
    exact W.of (fun t k => XS.icmpNo X.here hx rfl hd rfl (hI_lt.trans (decide_eq_false z)) k) w
theorem w_if_lt (X : Sn Z n0 bs mx own nm ret p l e R s m args below meth c T h cells slots) {x : Int32} (hd : decode bs pc = .ok (.ifCond .lt o, 3)) (hp : 0 ≤ (pc : Int) + o ∧ ((pc : Int) + o).toNat = pc1 ∧ pc + 3 = pc2)
    (yes : x.toInt < 0 → W p e below s R n0 Q (T.setTop (mkF m pc1 Ls (st)))) (no : x.toInt ≥ 0 → W p e below s R n0 Q (T.setTop (mkF m pc2 Ls (st)))) : W p e below s R n0 Q (T.setTop (mkF m pc Ls (.int x :: st))) := by
  obtain ⟨locs, X, eT, N, hs0, hcl, hsl, hx, hZ, rfl, hml, hown, hnm, hret, hlk⟩ := X
  have hq : ifCond.holds .lt x = decide (x.toInt < 0) := (if0 _ _).trans hI_lt
  by_cases z : x.toInt < 0
  · exact W.of (fun t k => XS.ifYes X.here hx rfl rfl hd rfl (hq.trans (decide_eq_true z)) hp.1 hp.2.1 k) (yes z)
  · have w := no (Int.not_lt.mp z)
    rw [← hp.2.2] at w
    exact W.of (fun t k => XS.ifNo X.here hx rfl hd rfl (hq.trans (decide_eq_false z)) k) w
theorem w_icmp_ge (X : Sn Z n0 bs mx own nm ret p l e R s m args below meth c T h cells slots) {x y : Int32} (hd : decode bs pc = .ok (.if_icmp .ge o, 3)) (hp : 0 ≤ (pc : Int) + o ∧ ((pc : Int) + o).toNat = pc1 ∧ pc + 3 = pc2)
    (yes : x.toInt ≥ y.toInt → W p e below s R n0 Q (T.setTop (mkF m pc1 Ls (st)))) (no : x.toInt < y.toInt → W p e below s R n0 Q (T.setTop (mkF m pc2 Ls (st)))) : W p e below s R n0 Q (T.setTop (mkF m pc Ls (.int y :: .int x :: st))) := by
  obtain ⟨locs, X, eT, N, hs0, hcl, hsl, hx, hZ, rfl, hml, hown, hnm, hret, hlk⟩ := X
  by_cases z : x.toInt ≥ y.toInt
  · exact W.of (fun t k => XS.icmpYes X.here hx rfl rfl hd rfl (hI_ge.trans (decide_eq_true z)) hp.1 hp.2.1 k) (yes z)
  · have w := no (Int.not_le.mp z)
    rw [← hp.2.2] at w
    exact W.of (fun t k => XS.icmpNo X.here hx rfl hd rfl (hI_ge.trans (decide_eq_false z)) k) w
theorem w_if_ge (X : Sn Z n0 bs mx own nm ret p l e R s m args below meth c T h cells slots) {x : Int32} (hd : decode bs pc = .ok (.ifCond .ge o, 3)) (hp : 0 ≤ (pc : Int) + o ∧ ((pc : Int) + o).toNat = pc1 ∧ pc + 3 = pc2)
    (yes : x.toInt ≥ 0 → W p e below s R n0 Q (T.setTop (mkF m pc1 Ls (st)))) (no : x.toInt < 0 → W p e below s R n0 Q (T.setTop (mkF m pc2 Ls (st)))) : W p e below s R n0 Q (T.setTop (mkF m pc Ls (.int x :: st))) := by
  obtain ⟨locs, X, eT, N, hs0, hcl, hsl, hx, hZ, rfl, hml, hown, hnm, hret, hlk⟩ := X
  have hq : ifCond.holds .ge x = decide (x.toInt ≥ 0) := (if0 _ _).trans hI_ge
  by_cases z : x.toInt ≥ 0
  · exact W.of (fun t k => XS.ifYes X.here hx rfl rfl hd rfl (hq.trans (decide_eq_true z)) hp.1 hp.2.1 k) (yes z)
  · have w := no (Int.not_le.mp z)
    rw [← hp.2.2] at w
    exact W.of (fun t k => XS.ifNo X.here hx rfl hd rfl (hq.trans (decide_eq_false z)) k) w
theorem w_icmp_gt (X : Sn Z n0 bs mx own nm ret p l e R s m args below meth c T h cells slots) {x y : Int32} (hd : decode bs pc = .ok (.if_icmp .gt o, 3)) (hp : 0 ≤ (pc : Int) + o ∧ ((pc : Int) + o).toNat = pc1 ∧ pc + 3 = pc2)
    (yes : x.toInt > y.toInt → W p e below s R n0 Q (T.setTop (mkF m pc1 Ls (st)))) (no : x.toInt ≤ y.toInt → W p e below s R n0 Q (T.setTop (mkF m pc2 Ls (st)))) : W p e below s R n0 Q (T.setTop (mkF m pc Ls (.int y :: .int x :: st))) := by
  obtain ⟨locs, X, eT, N, hs0, hcl, hsl, hx, hZ, rfl, hml, hown, hnm, hret, hlk⟩ := X
  by_cases z : x.toInt > y.toInt
  · exact W.of (fun t k => XS.icmpYes X.here hx rfl rfl hd rfl (hI_gt.trans (decide_eq_true z)) hp.1 hp.2.1 k) (yes z)
  · have w := no (Int.not_lt.mp z)
    rw [← hp.2.2] at w
    exact W.of (fun t k => XS.icmpNo X.here hx rfl hd rfl (hI_gt.trans (decide_eq_false z)) k) w
theorem w_if_gt (X : Sn Z n0 bs mx own nm ret p l e R s m args below meth c T h cells slots) {x : Int32} (hd : decode bs pc = .ok (.ifCond .gt o, 3)) (hp : 0 ≤ (pc : Int) + o ∧ ((pc : Int) + o).toNat = pc1 ∧ pc + 3 = pc2)
    (yes : x.toInt > 0 → W p e below s R n0 Q (T.setTop (mkF m pc1 Ls (st)))) (no : x.toInt ≤ 0 → W p e below s R n0 Q (T.setTop (mkF m pc2 Ls (st)))) : W p e below s R n0 Q (T.setTop (mkF m pc Ls (.int x :: st))) := by
  obtain ⟨locs, X, eT, N, hs0, hcl, hsl, hx, hZ, rfl, hml, hown, hnm, hret, hlk⟩ := X
  have hq : ifCond.holds .gt x = decide (x.toInt > 0) := (if0 _ _).trans hI_gt
  by_cases z : x.toInt > 0
  · exact W.of (fun t k => XS.ifYes X.here hx rfl rfl hd rfl (hq.trans (decide_eq_true z)) hp.1 hp.2.1 k) (yes z)
  · have w := no (Int.not_lt.mp z)
    rw [← hp.2.2] at w
    exact W.of (fun t k => XS.ifNo X.here hx rfl hd rfl (hq.trans (decide_eq_false z)) k) w
theorem w_icmp_le (X : Sn Z n0 bs mx own nm ret p l e R s m args below meth c T h cells slots) {x y : Int32} (hd : decode bs pc = .ok (.if_icmp .le o, 3)) (hp : 0 ≤ (pc : Int) + o ∧ ((pc : Int) + o).toNat = pc1 ∧ pc + 3 = pc2)
    (yes : x.toInt ≤ y.toInt → W p e below s R n0 Q (T.setTop (mkF m pc1 Ls (st)))) (no : x.toInt > y.toInt → W p e below s R n0 Q (T.setTop (mkF m pc2 Ls (st)))) : W p e below s R n0 Q (T.setTop (mkF m pc Ls (.int y :: .int x :: st))) := by
  obtain ⟨locs, X, eT, N, hs0, hcl, hsl, hx, hZ, rfl, hml, hown, hnm, hret, hlk⟩ := X
  by_cases z : x.toInt ≤ y.toInt
  · exact W.of (fun t k => XS.icmpYes X.here hx rfl rfl hd rfl (hI_le.trans (decide_eq_true z)) hp.1 hp.2.1 k) (yes z)
  · have w := no (Int.not_le.mp z)
    rw [← hp.2.2] at w
    exact W.of (fun t k => XS.icmpNo X.here hx rfl hd rfl (hI_le.trans (decide_eq_false z)) k) w
theorem w_if_le (X : Sn Z n0 bs mx own nm ret p l e R s m args below meth c T h cells slots) {x : Int32} (hd : decode bs pc = .ok (.ifCond .le o, 3)) (hp : 0 ≤ (pc : Int) + o ∧ ((pc : Int) + o).toNat = pc1 ∧ pc + 3 = pc2)
    (yes : x.toInt ≤ 0 → W p e below s R n0 Q (T.setTop (mkF m pc1 Ls (st)))) (no : x.toInt > 0 → W p e below s R n0 Q (T.setTop (mkF m pc2 Ls (st)))) : W p e below s R n0 Q (T.setTop (mkF m pc Ls (.int x :: st))) := by
  obtain ⟨locs, X, eT, N, hs0, hcl, hsl, hx, hZ, rfl, hml, hown, hnm, hret, hlk⟩ := X
  have hq : ifCond.holds .le x = decide (x.toInt ≤ 0) := (if0 _ _).trans hI_le
  by_cases z : x.toInt ≤ 0
  · exact W.of (fun t k => XS.ifYes X.here hx rfl rfl hd rfl (hq.trans (decide_eq_true z)) hp.1 hp.2.1 k) (yes z)
  · have w := no (Int.not_le.mp z)
    rw [← hp.2.2] at w
    exact W.of (fun t k => XS.ifNo X.here hx rfl hd rfl (hq.trans (decide_eq_false z)) k) w
theorem hL {x y : Int64} : (if x > y then (1 : Int32) else if x = y then 0 else -1).toInt = if x.toInt > y.toInt then 1 else if x = y then 0 else -1 := by
  by_cases q : x > y
  · have q' : x.toInt > y.toInt := Int64.lt_iff_toInt_lt.mp q
    rw [if_pos q, if_pos q']; rfl
  · have q' : ¬ x.toInt > y.toInt := fun z => q (Int64.lt_iff_toInt_lt.mpr z)
    rw [if_neg q, if_neg q']
    by_cases r : x = y
    · rw [if_pos r, if_pos r]; rfl
    · rw [if_neg r, if_neg r]; rfl
theorem hL2 {x y : Int64} : ((if x > y then (1 : Int32) else if x = y then 0 else -1).toInt = 1 ∧ x.toInt > y.toInt) ∨ ((if x > y then (1 : Int32) else if x = y then 0 else -1) = 0 ∧ x = y ∧ x.toInt = y.toInt) ∨ ((if x > y then (1 : Int32) else if x = y then 0 else -1).toInt = -1 ∧ x.toInt < y.toInt) := by
  by_cases q : x.toInt > y.toInt
  · left; rw [hL, if_pos q]; exact ⟨rfl, q⟩
  · by_cases r : x = y
    · right; left; subst r; exact ⟨by rw [if_neg (fun z => q (Int64.lt_iff_toInt_lt.mp z)), if_pos rfl], rfl, rfl⟩
    · right; right; rw [hL, if_neg q, if_neg r]; refine ⟨rfl, ?_⟩
      have : x.toInt ≠ y.toInt := fun z => r (Int64.toInt_inj.mp z)
      omega
theorem w_lcif_eq (X : Sn Z n0 bs mx own nm ret p l e R s m args below meth c T h cells slots) {x y : Int64} (hd : decode bs pc = .ok (.lcmp, 1)) (hd2 : decode bs pc' = .ok (.ifCond .eq o, 3)) (hp : pc + 1 = pc' ∧ 0 ≤ (pc' : Int) + o ∧ ((pc' : Int) + o).toNat = pc1 ∧ pc' + 3 = pc2)
    (yes : x = y → W p e below s R n0 Q (T.setTop (mkF m pc1 Ls (st)))) (no : x ≠ y → W p e below s R n0 Q (T.setTop (mkF m pc2 Ls (st)))) : W p e below s R n0 Q (T.setTop (mkF m pc Ls (.long y :: .long x :: st))) := by
  have X' := X
  obtain ⟨locs, X, eT, N, hs0, hcl, hsl, hx, hZ, rfl, hml, hown, hnm, hret, hlk⟩ := X
  refine W.of (fun t k => XS.lcmp X.here hx rfl hd rfl k) ?_
  have e1 : pc + 1 = pc' := hp.1
  show W p e below s R n0 Q (T.setTop (mkF m (pc + 1) Ls (.int (if x > y then 1 else if x = y then 0 else -1) :: st)))
  rw [e1]
  refine w_if_eq X' hd2 hp.2 (fun z => yes ?_) (fun z => no ?_)
  all_goals rcases hL2 (x := x) (y := y) with ⟨q1, q2⟩ | ⟨q1, rfl, -⟩ | ⟨q1, q2⟩
  all_goals first | rfl | exact Int.le_refl _ | (exfalso; rw [z] at q1; revert q1; decide) | (exfalso; exact z q1) | (exfalso; rw [q1] at z; revert z; decide) | (intro u; subst u; exact absurd q2 (Int.lt_irrefl _)) | omega
theorem w_lcif_ne (X : Sn Z n0 bs mx own nm ret p l e R s m args below meth c T h cells slots) {x y : Int64} (hd : decode bs pc = .ok (.lcmp, 1)) (hd2 : decode bs pc' = .ok (.ifCond .ne o, 3)) (hp : pc + 1 = pc' ∧ 0 ≤ (pc' : Int) + o ∧ ((pc' : Int) + o).toNat = pc1 ∧ pc' + 3 = pc2)
    (yes : x ≠ y → W p e below s R n0 Q (T.setTop (mkF m pc1 Ls (st)))) (no : x = y → W p e below s R n0 Q (T.setTop (mkF m pc2 Ls (st)))) : W p e below s R n0 Q (T.setTop (mkF m pc Ls (.long y :: .long x :: st))) := by
  have X' := X
  obtain ⟨locs, X, eT, N, hs0, hcl, hsl, hx, hZ, rfl, hml, hown, hnm, hret, hlk⟩ := X
  refine W.of (fun t k => XS.lcmp X.here hx rfl hd rfl k) ?_
  have e1 : pc + 1 = pc' := hp.1
  show W p e below s R n0 Q (T.setTop (mkF m (pc + 1) Ls (.int (if x > y then 1 else if x = y then 0 else -1) :: st)))
  rw [e1]
  refine w_if_ne X' hd2 hp.2 (fun z => yes ?_) (fun z => no ?_)
  all_goals rcases hL2 (x := x) (y := y) with ⟨q1, q2⟩ | ⟨q1, rfl, -⟩ | ⟨q1, q2⟩
  all_goals first | rfl | exact Int.le_refl _ | (exfalso; rw [z] at q1; revert q1; decide) | (exfalso; exact z q1) | (exfalso; rw [q1] at z; revert z; decide) | (intro u; subst u; exact absurd q2 (Int.lt_irrefl _)) | omega
theorem w_lcif_lt (X : Sn Z n0 bs mx own nm ret p l e R s m args below meth c T h cells slots) {x y : Int64} (hd : decode bs pc = .ok (.lcmp, 1)) (hd2 : decode bs pc' = .ok (.ifCond .lt o, 3)) (hp : pc + 1 = pc' ∧ 0 ≤ (pc' : Int) + o ∧ ((pc' : Int) + o).toNat = pc1 ∧ pc' + 3 = pc2)
    (yes : x.toInt < y.toInt → W p e below s R n0 Q (T.setTop (mkF m pc1 Ls (st)))) (no : x.toInt ≥ y.toInt → W p e below s R n0 Q (T.setTop (mkF m pc2 Ls (st)))) : W p e below s R n0 Q (T.setTop (mkF m pc Ls (.long y :: .long x :: st))) := by
  have X' := X
  obtain ⟨locs, X, eT, N, hs0, hcl, hsl, hx, hZ, rfl, hml, hown, hnm, hret, hlk⟩ := X
  refine W.of (fun t k => XS.lcmp X.here hx rfl hd rfl k) ?_
  have e1 : pc + 1 = pc' := hp.1
  show W p e below s R n0 Q (T.setTop (mkF m (pc + 1) Ls (.int (if x > y then 1 else if x = y then 0 else -1) :: st)))
  rw [e1]
  refine w_if_lt X' hd2 hp.2 (fun z => yes ?_) (fun z => no ?_)
  all_goals rcases hL2 (x := x) (y := y) with ⟨q1, q2⟩ | ⟨q1, rfl, -⟩ | ⟨q1, q2⟩
  all_goals first | rfl | exact Int.le_refl _ | (exfalso; rw [z] at q1; revert q1; decide) | (exfalso; exact z q1) | (exfalso; rw [q1] at z; revert z; decide) | (intro u; subst u; exact absurd q2 (Int.lt_irrefl _)) | omega
theorem w_lcif_ge (X : Sn Z n0 bs mx own nm ret p l e R s m args below meth c T h cells slots) {x y : Int64} (hd : decode bs pc = .ok (.lcmp, 1)) (hd2 : decode bs pc' = .ok (.ifCond .ge o, 3)) (hp : pc + 1 = pc' ∧ 0 ≤ (pc' : Int) + o ∧ ((pc' : Int) + o).toNat = pc1 ∧ pc' + 3 = pc2)
    (yes : x.toInt ≥ y.toInt → W p e below s R n0 Q (T.setTop (mkF m pc1 Ls (st)))) (no : x.toInt < y.toInt → W p e below s R n0 Q (T.setTop (mkF m pc2 Ls (st)))) : W p e below s R n0 Q (T.setTop (mkF m pc Ls (.long y :: .long x :: st))) := by
  have X' := X
  obtain ⟨locs, X, eT, N, hs0, hcl, hsl, hx, hZ, rfl, hml, hown, hnm, hret, hlk⟩ := X
  refine W.of (fun t k => XS.lcmp X.here hx rfl hd rfl k) ?_
  have e1 : pc + 1 = pc' := hp.1
  show W p e below s R n0 Q (T.setTop (mkF m (pc + 1) Ls (.int (if x > y then 1 else if x = y then 0 else -1) :: st)))
  rw [e1]
  refine w_if_ge X' hd2 hp.2 (fun z => yes ?_) (fun z => no ?_)
  all_goals rcases hL2 (x := x) (y := y) with ⟨q1, q2⟩ | ⟨q1, rfl, -⟩ | ⟨q1, q2⟩
  all_goals first | rfl | exact Int.le_refl _ | (exfalso; rw [z] at q1; revert q1; decide) | (exfalso; exact z q1) | (exfalso; rw [q1] at z; revert z; decide) | (intro u; subst u; exact absurd q2 (Int.lt_irrefl _)) | omega
theorem w_lcif_gt (X : Sn Z n0 bs mx own nm ret p l e R s m args below meth c T h cells slots) {x y : Int64} (hd : decode bs pc = .ok (.lcmp, 1)) (hd2 : decode bs pc' = .ok (.ifCond .gt o, 3)) (hp : pc + 1 = pc' ∧ 0 ≤ (pc' : Int) + o ∧ ((pc' : Int) + o).toNat = pc1 ∧ pc' + 3 = pc2)
    (yes : x.toInt > y.toInt → W p e below s R n0 Q (T.setTop (mkF m pc1 Ls (st)))) (no : x.toInt ≤ y.toInt → W p e below s R n0 Q (T.setTop (mkF m pc2 Ls (st)))) : W p e below s R n0 Q (T.setTop (mkF m pc Ls (.long y :: .long x :: st))) := by
  have X' := X
  obtain ⟨locs, X, eT, N, hs0, hcl, hsl, hx, hZ, rfl, hml, hown, hnm, hret, hlk⟩ := X
  refine W.of (fun t k => XS.lcmp X.here hx rfl hd rfl k) ?_
  have e1 : pc + 1 = pc' := hp.1
  show W p e below s R n0 Q (T.setTop (mkF m (pc + 1) Ls (.int (if x > y then 1 else if x = y then 0 else -1) :: st)))
  rw [e1]
  refine w_if_gt X' hd2 hp.2 (fun z => yes ?_) (fun z => no ?_)
  all_goals rcases hL2 (x := x) (y := y) with ⟨q1, q2⟩ | ⟨q1, rfl, -⟩ | ⟨q1, q2⟩
  all_goals first | rfl | exact Int.le_refl _ | (exfalso; rw [z] at q1; revert q1; decide) | (exfalso; exact z q1) | (exfalso; rw [q1] at z; revert z; decide) | (intro u; subst u; exact absurd q2 (Int.lt_irrefl _)) | omega
theorem w_lcif_le (X : Sn Z n0 bs mx own nm ret p l e R s m args below meth c T h cells slots) {x y : Int64} (hd : decode bs pc = .ok (.lcmp, 1)) (hd2 : decode bs pc' = .ok (.ifCond .le o, 3)) (hp : pc + 1 = pc' ∧ 0 ≤ (pc' : Int) + o ∧ ((pc' : Int) + o).toNat = pc1 ∧ pc' + 3 = pc2)
    (yes : x.toInt ≤ y.toInt → W p e below s R n0 Q (T.setTop (mkF m pc1 Ls (st)))) (no : x.toInt > y.toInt → W p e below s R n0 Q (T.setTop (mkF m pc2 Ls (st)))) : W p e below s R n0 Q (T.setTop (mkF m pc Ls (.long y :: .long x :: st))) := by
  have X' := X
  obtain ⟨locs, X, eT, N, hs0, hcl, hsl, hx, hZ, rfl, hml, hown, hnm, hret, hlk⟩ := X
  refine W.of (fun t k => XS.lcmp X.here hx rfl hd rfl k) ?_
  have e1 : pc + 1 = pc' := hp.1
  show W p e below s R n0 Q (T.setTop (mkF m (pc + 1) Ls (.int (if x > y then 1 else if x = y then 0 else -1) :: st)))
  rw [e1]
  refine w_if_le X' hd2 hp.2 (fun z => yes ?_) (fun z => no ?_)
  all_goals rcases hL2 (x := x) (y := y) with ⟨q1, q2⟩ | ⟨q1, rfl, -⟩ | ⟨q1, q2⟩
  all_goals first | rfl | exact Int.le_refl _ | (exfalso; rw [z] at q1; revert q1; decide) | (exfalso; exact z q1) | (exfalso; rw [q1] at z; revert z; decide) | (intro u; subst u; exact absurd q2 (Int.lt_irrefl _)) | omega
theorem w_ifnull_ref (X : Sn Z n0 bs mx own nm ret p l e R s m args below meth c T h cells slots) {b : Addr} (hd : decode bs pc = .ok (.ifnull o, 3)) (hp : pc + 3 = pc')
    (w : W p e below s R n0 Q (T.setTop (mkF m pc' Ls (st)))) : W p e below s R n0 Q (T.setTop (mkF m pc Ls (.ref b :: st))) := by
  obtain ⟨locs, X, eT, N, hs0, hcl, hsl, hx, hZ, rfl, hml, hown, hnm, hret, hlk⟩ := X
  subst hp
  exact W.of (fun t k => XS.ifnullNo X.here hx rfl hd rfl k) w
theorem w_ifnull_null (X : Sn Z n0 bs mx own nm ret p l e R s m args below meth c T h cells slots) (hd : decode bs pc = .ok (.ifnull o, 3)) (hp : 0 ≤ (pc : Int) + o ∧ ((pc : Int) + o).toNat = pc')
    (w : W p e below s R n0 Q (T.setTop (mkF m pc' Ls (st)))) : W p e below s R n0 Q (T.setTop (mkF m pc Ls (.null :: st))) := by
  obtain ⟨locs, X, eT, N, hs0, hcl, hsl, hx, hZ, rfl, hml, hown, hnm, hret, hlk⟩ := X
  exact W.of (fun t k => XS.ifnullYes X.here hx rfl rfl hd rfl hp.1 hp.2 k) w
theorem idxOf {j : Int32} {i n : Nat} {cl : Cell} (q : j.toInt = i) (hi : i < n) (hn : cl.slots.size = n) : ¬ (j < 0 ∨ cl.slots.size ≤ j.toNatClampNeg) ∧ j.toNatClampNeg = i := by
  have e : j.toNatClampNeg = i := by simp only [Int32.toNatClampNeg]; omega
  refine ⟨?_, e⟩
  rw [e, hn, Int32.lt_iff_toInt_lt]
  have : (0 : Int32).toInt = 0 := rfl
  omega
theorem w_iaload (X : Sn Z n0 bs mx own nm ret p l e R s m args below meth c T h cells slots) {a : Addr} {n i : Nat} {f : Nat → Value} {j : Int32} {v : Value} (F : AF Z h a .int n f) (hd : decode bs pc = .ok (.iaload, 1)) (hj : j.toInt = i) (hi : i < n) (hv : f i = v) (hp : pc + 1 = pc')
    (w : W p e below s R n0 Q (T.setTop (mkF m pc' Ls (v :: st)))) : W p e below s R n0 Q (T.setTop (mkF m pc Ls (.int j :: .ref a :: st))) := by
  obtain ⟨locs, X, eT, N, hs0, hcl, hsl, hx, hZ, rfl, hml, hown, hnm, hret, hlk⟩ := X
  obtain ⟨cl, A, r1, r2, r3⟩ := F
  obtain ⟨q1, q2⟩ := idxOf (cl := cl) hj hi r1
  subst hp hv eT
  exact W.of (fun t k => X.iaload hx (j := j) (v := f i) A.1 (State.isArrayOf_alike hZ.alike A.2.1) A.2.2 q1 (by rw [q2]; exact r3 i hi) (g := mkF m pc Ls (.int j :: .ref a :: st)) rfl rfl hd _ k) w
theorem w_laload (X : Sn Z n0 bs mx own nm ret p l e R s m args below meth c T h cells slots) {a : Addr} {n i : Nat} {f : Nat → Value} {j : Int32} {v : Value} (F : AF Z h a .long n f) (hd : decode bs pc = .ok (.laload, 1)) (hj : j.toInt = i) (hi : i < n) (hv : f i = v) (hp : pc + 1 = pc')
    (w : W p e below s R n0 Q (T.setTop (mkF m pc' Ls (v :: st)))) : W p e below s R n0 Q (T.setTop (mkF m pc Ls (.int j :: .ref a :: st))) := by
  obtain ⟨locs, X, eT, N, hs0, hcl, hsl, hx, hZ, rfl, hml, hown, hnm, hret, hlk⟩ := X
  obtain ⟨cl, A, r1, r2, r3⟩ := F
  obtain ⟨q1, q2⟩ := idxOf (cl := cl) hj hi r1
  subst hp hv eT
  exact W.of (fun t k => X.laload hx (j := j) (v := f i) A.1 (State.isArrayOf_alike hZ.alike A.2.1) A.2.2 q1 (by rw [q2]; exact r3 i hi) (g := mkF m pc Ls (.int j :: .ref a :: st)) rfl rfl hd _ k) w
theorem w_baloadB (X : Sn Z n0 bs mx own nm ret p l e R s m args below meth c T h cells slots) {a : Addr} {n i : Nat} {f : Nat → Value} {j : Int32} {v : Value} (F : AF Z h a .byte n f) (hd : decode bs pc = .ok (.baload, 1)) (hj : j.toInt = i) (hi : i < n) (hv : f i = v) (hp : pc + 1 = pc')
    (w : W p e below s R n0 Q (T.setTop (mkF m pc' Ls (v :: st)))) : W p e below s R n0 Q (T.setTop (mkF m pc Ls (.int j :: .ref a :: st))) := by
  obtain ⟨locs, X, eT, N, hs0, hcl, hsl, hx, hZ, rfl, hml, hown, hnm, hret, hlk⟩ := X
  obtain ⟨cl, A, r1, r2, r3⟩ := F
  obtain ⟨q1, q2⟩ := idxOf (cl := cl) hj hi r1
  subst hp hv eT
  exact W.of (fun t k => X.baloadBytes hx (j := j) (v := f i) A.1 (State.isArrayOf_alike hZ.alike A.2.1) A.2.2 q1 (by rw [q2]; exact r3 i hi) (g := mkF m pc Ls (.int j :: .ref a :: st)) rfl rfl hd _ k) w
theorem w_baloadZ (X : Sn Z n0 bs mx own nm ret p l e R s m args below meth c T h cells slots) {a : Addr} {n i : Nat} {f : Nat → Value} {j : Int32} {v : Value} (F : AF Z h a .boolean n f) (hd : decode bs pc = .ok (.baload, 1)) (hj : j.toInt = i) (hi : i < n) (hv : f i = v) (hp : pc + 1 = pc')
    (w : W p e below s R n0 Q (T.setTop (mkF m pc' Ls (v :: st)))) : W p e below s R n0 Q (T.setTop (mkF m pc Ls (.int j :: .ref a :: st))) := by
  obtain ⟨locs, X, eT, N, hs0, hcl, hsl, hx, hZ, rfl, hml, hown, hnm, hret, hlk⟩ := X
  obtain ⟨cl, A, r1, r2, r3⟩ := F
  obtain ⟨q1, q2⟩ := idxOf (cl := cl) hj hi r1
  subst hp hv eT
  exact W.of (fun t k => X.baloadBooleans hx (j := j) (v := f i) A.1 (State.isArrayOf_alike hZ.alike A.2.1) A.2.2 q1 (by rw [q2]; exact r3 i hi) (g := mkF m pc Ls (.int j :: .ref a :: st)) rfl rfl hd _ k) w
theorem w_iastore (X : Sn Z n0 bs mx own nm ret p l e R s m args below meth c T h cells slots) {a : Addr} {n i : Nat} {f : Nat → Value} {j : Int32} {x : Int32} (F : AF Z h a .int n f) (hd : decode bs pc = .ok (.iastore, 1)) (hj : j.toInt = i) (hi : i < n) (hp : pc + 1 = pc') (ha : n0 ≤ a)
    (w : ∀ T' h', Sn Z n0 bs mx own nm ret p l e R s m args below meth c T' h' cells slots → Wr h h' a i (.int x) → W p e below s R n0 Q (T'.setTop (mkF m pc' Ls (st)))) : W p e below s R n0 Q (T.setTop (mkF m pc Ls (.int x :: .int j :: .ref a :: st))) := by
  obtain ⟨locs, X, eT, N, hs0, hcl, hsl, hx, hZ, rfl, hml, hown, hnm, hret, hlk⟩ := X
  obtain ⟨cl, A, r1, r2, r3⟩ := F
  obtain ⟨q1, q2⟩ := idxOf (cl := cl) hj hi r1
  subst hp
  obtain ⟨T', h', X', e', W', st'⟩ := stI X hx hZ eT A (j := j) q1 (g := mkF m pc Ls (.int x :: .int j :: .ref a :: st)) rfl rfl hd
  rw [q2] at X' W'
  exact W.of st' (w T' h' ⟨_, X', e', Fr.snoc X' N ha, by rw [W'.size]; exact hs0, hcl, hsl, hx, hZ, rfl, hml, hown, hnm, hret, hlk⟩ W')
theorem w_lastore (X : Sn Z n0 bs mx own nm ret p l e R s m args below meth c T h cells slots) {a : Addr} {n i : Nat} {f : Nat → Value} {j : Int32} {x : Int64} (F : AF Z h a .long n f) (hd : decode bs pc = .ok (.lastore, 1)) (hj : j.toInt = i) (hi : i < n) (hp : pc + 1 = pc') (ha : n0 ≤ a)
    (w : ∀ T' h', Sn Z n0 bs mx own nm ret p l e R s m args below meth c T' h' cells slots → Wr h h' a i (.long x) → W p e below s R n0 Q (T'.setTop (mkF m pc' Ls (st)))) : W p e below s R n0 Q (T.setTop (mkF m pc Ls (.long x :: .int j :: .ref a :: st))) := by
  obtain ⟨locs, X, eT, N, hs0, hcl, hsl, hx, hZ, rfl, hml, hown, hnm, hret, hlk⟩ := X
  obtain ⟨cl, A, r1, r2, r3⟩ := F
  obtain ⟨q1, q2⟩ := idxOf (cl := cl) hj hi r1
  subst hp
  obtain ⟨T', h', X', e', W', st'⟩ := stJ X hx hZ eT A (j := j) q1 (g := mkF m pc Ls (.long x :: .int j :: .ref a :: st)) rfl rfl hd
  rw [q2] at X' W'
  exact W.of st' (w T' h' ⟨_, X', e', Fr.snoc X' N ha, by rw [W'.size]; exact hs0, hcl, hsl, hx, hZ, rfl, hml, hown, hnm, hret, hlk⟩ W')
theorem w_bastoreB (X : Sn Z n0 bs mx own nm ret p l e R s m args below meth c T h cells slots) {a : Addr} {n i : Nat} {f : Nat → Value} {j : Int32} {x : Int32} (F : AF Z h a .byte n f) (hd : decode bs pc = .ok (.bastore, 1)) (hj : j.toInt = i) (hi : i < n) (hp : pc + 1 = pc') (ha : n0 ≤ a)
    (w : ∀ T' h', Sn Z n0 bs mx own nm ret p l e R s m args below meth c T' h' cells slots → Wr h h' a i (.int (x.toInt8.toInt32)) → W p e below s R n0 Q (T'.setTop (mkF m pc' Ls (st)))) : W p e below s R n0 Q (T.setTop (mkF m pc Ls (.int x :: .int j :: .ref a :: st))) := by
  obtain ⟨locs, X, eT, N, hs0, hcl, hsl, hx, hZ, rfl, hml, hown, hnm, hret, hlk⟩ := X
  obtain ⟨cl, A, r1, r2, r3⟩ := F
  obtain ⟨q1, q2⟩ := idxOf (cl := cl) hj hi r1
  subst hp
  obtain ⟨T', h', X', e', W', st'⟩ := stB X hx hZ eT A (j := j) q1 (g := mkF m pc Ls (.int x :: .int j :: .ref a :: st)) rfl rfl hd
  rw [q2] at X' W'
  exact W.of st' (w T' h' ⟨_, X', e', Fr.snoc X' N ha, by rw [W'.size]; exact hs0, hcl, hsl, hx, hZ, rfl, hml, hown, hnm, hret, hlk⟩ W')
theorem w_bastoreZ (X : Sn Z n0 bs mx own nm ret p l e R s m args below meth c T h cells slots) {a : Addr} {n i : Nat} {f : Nat → Value} {j : Int32} {x : Int32} (F : AF Z h a .boolean n f) (hd : decode bs pc = .ok (.bastore, 1)) (hj : j.toInt = i) (hi : i < n) (hp : pc + 1 = pc') (ha : n0 ≤ a)
    (w : ∀ T' h', Sn Z n0 bs mx own nm ret p l e R s m args below meth c T' h' cells slots → Wr h h' a i (.int (x &&& 1)) → W p e below s R n0 Q (T'.setTop (mkF m pc' Ls (st)))) : W p e below s R n0 Q (T.setTop (mkF m pc Ls (.int x :: .int j :: .ref a :: st))) := by
  obtain ⟨locs, X, eT, N, hs0, hcl, hsl, hx, hZ, rfl, hml, hown, hnm, hret, hlk⟩ := X
  obtain ⟨cl, A, r1, r2, r3⟩ := F
  obtain ⟨q1, q2⟩ := idxOf (cl := cl) hj hi r1
  subst hp
  obtain ⟨T', h', X', e', W', st'⟩ := stZ X hx hZ eT A (j := j) q1 (g := mkF m pc Ls (.int x :: .int j :: .ref a :: st)) rfl rfl hd
  rw [q2] at X' W'
  exact W.of st' (w T' h' ⟨_, X', e', Fr.snoc X' N ha, by rw [W'.size]; exact hs0, hcl, hsl, hx, hZ, rfl, hml, hown, hnm, hret, hlk⟩ W')
theorem w_arraylength (X : Sn Z n0 bs mx own nm ret p l e R s m args below meth c T h cells slots) {a : Addr} {ty : FieldType} {n : Nat} {f : Nat → Value} {z : Int32} (F : AF Z h a ty n f) (hd : decode bs pc = .ok (.arraylength, 1)) (hz : z.toInt = n) (hp : pc + 1 = pc')
    (w : W p e below s R n0 Q (T.setTop (mkF m pc' Ls (.int z :: st)))) : W p e below s R n0 Q (T.setTop (mkF m pc Ls (.ref a :: st))) := by
  obtain ⟨locs, X, eT, N, hs0, hcl, hsl, hx, hZ, rfl, hml, hown, hnm, hret, hlk⟩ := X
  obtain ⟨cl, A, r1, r2, r3⟩ := F
  subst hp eT
  have e1 : cl.slots.size.toInt32 = z := Int32.toInt_inj.mp (by rw [len_toInt (by rw [r1]; exact r2), hz, r1])
  rw [← e1] at w
  exact W.of (fun t k => X.arraylength hx A.1 (State.isArrayOf_alike hZ.alike A.2.1) (g := mkF m pc Ls (.ref a :: st)) rfl rfl hd _ k) w
theorem w_newarray (X : Sn Z n0 bs mx own nm ret p l e R s m args below meth c T h cells slots) {aty : ArrayType} {z : Int32} {n cap : Nat} (hd : decode bs pc = .ok (.newarray aty, 2)) (w0 : (Cond.arrayClass (newarray.typeOf aty)).before a0 Z = true) (hz : z.toInt = n) (hcap : n ≤ cap) (hr : cap * 8 ≤ 536870912 ∧ cells + 1 ≤ R.cells ∧ slots + cap ≤ R.slots ∧ pc + 2 = pc')
    (w : ∀ T' h' b, Sn Z n0 bs mx own nm ret p l e R s m args below meth c T' h' (cells + 1) (slots + cap) → Ext h h' → b = h.size → n0 ≤ b → AF Z h' b (newarray.typeOf aty) n (fun _ => defaultValue (newarray.typeOf aty)) → W p e below s R n0 Q (T'.setTop (mkF m pc' Ls (.ref b :: st)))) : W p e below s R n0 Q (T.setTop (mkF m pc Ls (.int z :: st))) := by
  obtain ⟨locs, X, eT, N, hs0, hcl, hsl, hx, hZ, rfl, hml, hown, hnm, hret, hlk⟩ := X
  have hn : ¬ z < 0 := by rw [Int32.lt_iff_toInt_lt]; have : (0 : Int32).toInt = 0 := rfl; omega
  obtain ⟨T', h', cA, X', e', E', A', st'⟩ := newP X hx hZ w0 eT (g := mkF m pc Ls (.int z :: st)) rfl hd rfl hn (cap := cap) (by simp only [Int32.toNatClampNeg]; omega) hr.1 hr.2.1 hr.2.2.1
  obtain ⟨-, hr2, hr3, hp⟩ := hr
  subst hp
  exact W.of st' (w T' h' _ ⟨_, X', e', N, Nat.le_trans hs0 E'.1, hr2, hr3, hx, hZ, rfl, hml, hown, hnm, hret, hlk⟩ E' rfl hs0 (AF.new A' hz))
theorem w_ireturn (X : Sn Z n0 bs mx own nm ret p l e R s m args below meth c T h cells slots) {v : Int32} (hd : decode bs pc = .ok (.ireturn, 1)) (hq : ret = some .int) (q : Q (some (.int v)) h) : W p e below s R n0 Q (T.setTop (mkF m pc Ls (.int v :: st))) := by
  obtain ⟨locs, X, eT, N, hs0, hcl, hsl, hx, hZ, rfl, hml, hown, hnm, hret, hlk⟩ := X
  obtain ⟨fs, hr, hrun, hended, hW, hsame⟩ := X.leave (v := some (.int v)) (fun u => by rw [hret, hq] at u; cases u) hlk
  exact ⟨_, _, retOut X hx (hret.trans hq) rfl (Or.inl ⟨rfl, Or.inl rfl, _, rfl⟩) hd hr, hrun, hended, _, locs, rfl, ⟨N, by rw [← eT] at hs0; exact hs0, by rw [← eT] at q; exact q⟩, ⟨_, rfl⟩, hW, hsame.mono hcl hsl⟩
theorem w_lreturn (X : Sn Z n0 bs mx own nm ret p l e R s m args below meth c T h cells slots) {v : Int64} (hd : decode bs pc = .ok (.lreturn, 1)) (hq : ret = some .long) (q : Q (some (.long v)) h) : W p e below s R n0 Q (T.setTop (mkF m pc Ls (.long v :: st))) := by
  obtain ⟨locs, X, eT, N, hs0, hcl, hsl, hx, hZ, rfl, hml, hown, hnm, hret, hlk⟩ := X
  obtain ⟨fs, hr, hrun, hended, hW, hsame⟩ := X.leave (v := some (.long v)) (fun u => by rw [hret, hq] at u; cases u) hlk
  exact ⟨_, _, retOut X hx (hret.trans hq) rfl (Or.inr (Or.inl ⟨rfl, rfl, _, rfl⟩)) hd hr, hrun, hended, _, locs, rfl, ⟨N, by rw [← eT] at hs0; exact hs0, by rw [← eT] at q; exact q⟩, ⟨_, rfl⟩, hW, hsame.mono hcl hsl⟩
theorem w_areturn (X : Sn Z n0 bs mx own nm ret p l e R s m args below meth c T h cells slots) {v : Value} {t : FieldType} (hd : decode bs pc = .ok (.areturn, 1)) (hq : ret = some t) (ht : t.isReference = true) (hv : v.isRef = true) (hn : narrow t v = v) (q : Q (some v) h) : W p e below s R n0 Q (T.setTop (mkF m pc Ls (v :: st))) := by
  obtain ⟨locs, X, eT, N, hs0, hcl, hsl, hx, hZ, rfl, hml, hown, hnm, hret, hlk⟩ := X
  obtain ⟨fs, hr, hrun, hended, hW, hsame⟩ := X.leave (v := some v) (fun u => by rw [hret, hq] at u; cases u) hlk
  exact ⟨_, _, retOut X hx (hret.trans hq) hn (Or.inr (Or.inr (Or.inr (Or.inr ⟨rfl, ht, hv⟩)))) hd hr, hrun, hended, _, locs, rfl, ⟨N, by rw [← eT] at hs0; exact hs0, by rw [← eT] at q; exact q⟩, ⟨_, rfl⟩, hW, hsame.mono hcl hsl⟩
theorem w_nreturn (X : Sn Z n0 bs mx own nm ret p l e R s m args below meth c T h cells slots) {v : Int32} {t : FieldType} (hd : decode bs pc = .ok (.ireturn, 1)) (hq : ret = some t) (ht : t = .boolean ∨ t = .byte ∨ t = .char ∨ t = .short) (q : Q (some (.int (nar t v))) h) : W p e below s R n0 Q (T.setTop (mkF m pc Ls (.int v :: st))) := by
  obtain ⟨locs, X, eT, N, hs0, hcl, hsl, hx, hZ, rfl, hml, hown, hnm, hret, hlk⟩ := X
  obtain ⟨fs, hr, hrun, hended, hW, hsame⟩ := X.leave (v := some (.int (nar t v))) (fun u => by rw [hret, hq] at u; cases u) hlk
  exact ⟨_, _, retN X hx (hret.trans hq) ht hd hr, hrun, hended, _, locs, rfl, ⟨N, by rw [← eT] at hs0; exact hs0, by rw [← eT] at q; exact q⟩, ⟨_, rfl⟩, hW, hsame.mono hcl hsl⟩
theorem w_return (X : Sn Z n0 bs mx own nm ret p l e R s m args below meth c T h cells slots) (hd : decode bs pc = .ok (.return_, 1)) (hq : ret = none) (q : Q (none) h) : W p e below s R n0 Q (T.setTop (mkF m pc Ls ([]))) := by
  obtain ⟨locs, X, eT, N, hs0, hcl, hsl, hx, hZ, rfl, hml, hown, hnm, hret, hlk⟩ := X
  obtain ⟨fs, hr, hrun, hended, hW, hsame⟩ := X.leave (v := none) (fun _ => rfl) hlk
  exact ⟨_, _, X.returnOut hx (hret.trans hq) hd hr, hrun, hended, _, locs, rfl, ⟨N, by rw [← eT] at hs0; exact hs0, by rw [← eT] at q; exact q⟩, ⟨_, rfl⟩, hW, hsame.mono hcl hsl⟩
theorem w_callS (X : Sn Z n0 bs mx own nm ret p l e R s m args below meth c T h cells slots) {index : Nat} {y : MethodName} {b2 : ByteArray} {m2 : Nat} {r2 : Option FieldType} {R2 : Room} {argsL rest : List Value} {wd : Nat} {ps : List FieldType} {r3 : Option FieldType} {Q2 : Option Value → Heap → Prop} 
    (hd : decode bs pc = .ok (.invokestatic index, 3)) (w1 : (Cond.methodLink own index y).before a0 Z = true) (w2 : (Cond.static y).before a0 Z = true) (w3 : (Cond.initialized y.cls).before a0 Z = true) (w4 : (Cond.code y b2 m2 r2).before a0 Z = true)
    (hy : y.cls ≠ "java/lang/invoke/MethodHandle" ∧ y.cls ≠ "java/lang/invoke/VarHandle") (C : Ct l Z y b2 m2 r2 [] R2 argsL.toArray h n0 Q2) (hpd : parseMethodDescriptor y.desc = some ⟨ps, r3⟩) (hlen : argsL.length = ps.length)
    (hst : st = argsL.reverse ++ rest) (hsz : Ls.size = mx) (hwd : (rest.map fun v => v.category).sum ≤ wd) (hr : R2.frames + 1 ≤ R.frames ∧ wd + (m2 + 11) + R2.locals ≤ R.locals ∧ cells + R2.cells ≤ R.cells ∧ slots + R2.slots ≤ R.slots ∧ pc + 3 = pc')
    (w : ∀ v T' h', Sn Z n0 bs mx own nm ret p l e R s m args below meth c T' h' (cells + R2.cells) (slots + R2.slots) → Q2 v h' → W p e below s R n0 Q (T'.setTop (mkF m pc' Ls (v.toList ++ rest)))) : W p e below s R n0 Q (T.setTop (mkF m pc Ls (st))) := by
  obtain ⟨locs, X, eT, N, hs0, hcl, hsl, hx, hZ, rfl, hml, hown, hnm, hret, hlk⟩ := X
  obtain ⟨hr1, hr2, hr3, hr4, hp⟩ := hr
  obtain ⟨v, vm1, ⟨T', L', k', n'⟩, -, X', ⟨Lc, hQ, l', y', z'⟩, st'⟩ := Jvm.LawKit.callS X hx (y := y) hown (mvT hZ w1) (mvT hZ w2) (mvT hZ w3) (mvT hZ w4) hy (backOf (W := wd) (Q := Qc n0 Q2) C hZ w4 w3 hr1 hr2) (g := mkF m pc Ls st) rfl (hsz.trans hml.symm) (argsL := argsL) (rest := rest) (lenOf hpd hlen) hst (by show 2 * 0 + _ ≤ _; omega) hd (fun _ _ => ⟨rfl, eT, hr3, hr4⟩)
  dsimp only [Pt.U, Pt.locs, Pt.cells, Pt.slots] at X' l' y' z' st' hQ
  subst l' y' z' hp
  exact W.of st' (w v T' T'.heap ⟨_, X', rfl, Fr.app N hQ.1, hQ.2.1, hr3, hr4, hx, hZ, rfl, hml, hown, hnm, hret, hlk⟩ hQ.2.2)
theorem w_callC (X : Sn Z n0 bs mx own nm ret p l e R s m args below meth c T h cells slots) {index : Nat} {y : MethodName} {b2 : ByteArray} {m2 : Nat} {R2 : Room} {argsL rest : List Value} {wd : Nat} {ps : List FieldType} {r3 : Option FieldType} {Q2 : Option Value → Heap → Prop} {a : Addr} (hy1 : y.name = "<init>")
    (hd : decode bs pc = .ok (.invokespecial index, 3)) (w1 : (Cond.methodLink own index y).before a0 Z = true) (w2 : (Cond.instanceMethod y).before a0 Z = true) (w3 : (Cond.initialized y.cls).before a0 Z = true) (w4 : (Cond.code y b2 m2 none).before a0 Z = true)
    (hy : y.cls ≠ "java/lang/invoke/MethodHandle" ∧ y.cls ≠ "java/lang/invoke/VarHandle") (C : Ct l Z y b2 m2 none [] R2 (.ref a :: argsL).toArray h n0 Q2) (hpd : parseMethodDescriptor y.desc = some ⟨ps, r3⟩) (hlen : argsL.length = ps.length)
    (hst : st = argsL.reverse ++ .ref a :: rest) (hsz : Ls.size = mx) (hwd : (rest.map fun v => v.category).sum ≤ wd) (hr : R2.frames + 1 ≤ R.frames ∧ wd + (m2 + 11) + R2.locals ≤ R.locals ∧ cells + R2.cells ≤ R.cells ∧ slots + R2.slots ≤ R.slots ∧ pc + 3 = pc')
    (w : ∀ v T' h', Sn Z n0 bs mx own nm ret p l e R s m args below meth c T' h' (cells + R2.cells) (slots + R2.slots) → Q2 v h' → W p e below s R n0 Q (T'.setTop (mkF m pc' Ls (v.toList ++ rest)))) : W p e below s R n0 Q (T.setTop (mkF m pc Ls (st))) := by
  obtain ⟨locs, X, eT, N, hs0, hcl, hsl, hx, hZ, rfl, hml, hown, hnm, hret, hlk⟩ := X
  obtain ⟨hr1, hr2, hr3, hr4, hp⟩ := hr
  obtain ⟨v, vm1, ⟨T', L', k', n'⟩, -, X', ⟨Lc, hQ, l', y', z'⟩, st'⟩ := X.specialBack hx (y := y) hy1 hown (mvT hZ w1) (mvT hZ w2) (mvT hZ w4) hy (backOf (W := wd) (Q := Qc n0 Q2) C hZ w4 w3 hr1 hr2) (g := mkF m pc Ls st) rfl (hsz.trans hml.symm) (Steps.refl _) (a := a) (argsL := argsL) (rest := rest) (lenOf hpd hlen) hst (by show 2 * 0 + _ ≤ _; omega) hd (fun _ _ => ⟨rfl, eT, hr3, hr4⟩)
  dsimp only [Pt.U, Pt.locs, Pt.cells, Pt.slots] at X' l' y' z' st' hQ
  subst l' y' z' hp
  exact W.fwd st' (w v T' T'.heap ⟨_, X', rfl, Fr.app N hQ.1, hQ.2.1, hr3, hr4, hx, hZ, rfl, hml, hown, hnm, hret, hlk⟩ hQ.2.2)
theorem w_callV (X : Sn Z n0 bs mx own nm ret p l e R s m args below meth c T h cells slots) {index : Nat} {y : MethodName} {b2 : ByteArray} {m2 : Nat} {r2 : Option FieldType} {R2 : Room} {argsL rest : List Value} {wd : Nat} {ps : List FieldType} {r3 : Option FieldType} {Q2 : Option Value → Heap → Prop} {a : Addr} {K : String} (E : Exa Z h a K)
    (hd : decode bs pc = .ok (.invokevirtual index, 3)) (w1 : (Cond.methodLink own index y).before a0 Z = true) (wd0 : (Cond.declares y).before a0 Z = true) (ws0 : (Cond.selects K y y).before a0 Z = true) (w2 : (Cond.instanceMethod y).before a0 Z = true) (w3 : (Cond.initialized y.cls).before a0 Z = true) (w4 : (Cond.code y b2 m2 r2).before a0 Z = true)
    (hy : y.cls ≠ "java/lang/invoke/MethodHandle" ∧ y.cls ≠ "java/lang/invoke/VarHandle") (C : Ct l Z y b2 m2 r2 [] R2 (.ref a :: argsL).toArray h n0 Q2) (hpd : parseMethodDescriptor y.desc = some ⟨ps, r3⟩) (hlen : argsL.length = ps.length)
    (hst : st = argsL.reverse ++ .ref a :: rest) (hsz : Ls.size = mx) (hwd : (rest.map fun v => v.category).sum ≤ wd) (hr : R2.frames + 1 ≤ R.frames ∧ wd + (m2 + 11) + R2.locals ≤ R.locals ∧ cells + R2.cells ≤ R.cells ∧ slots + R2.slots ≤ R.slots ∧ pc + 3 = pc')
    (w : ∀ v T' h', Sn Z n0 bs mx own nm ret p l e R s m args below meth c T' h' (cells + R2.cells) (slots + R2.slots) → Q2 v h' → W p e below s R n0 Q (T'.setTop (mkF m pc' Ls (v.toList ++ rest)))) : W p e below s R n0 Q (T.setTop (mkF m pc Ls (st))) := by
  obtain ⟨locs, X, eT, N, hs0, hcl, hsl, hx, hZ, rfl, hml, hown, hnm, hret, hlk⟩ := X
  obtain ⟨hr1, hr2, hr3, hr4, hp⟩ := hr
  obtain ⟨cq, kq, qa, qb, qc⟩ := isOf hZ eT E
  obtain ⟨v, vm1, ⟨T', L', k', n'⟩, -, X', ⟨Lc, hQ, l', y', z'⟩, st'⟩ := X.virtualBack hx (y := y) (z := y) hown (mvT hZ w1) (mvT hZ wd0) (notFace_of_selects (args := #[]) (mvT hZ ws0)) (mvT hZ ws0) (mvT hZ w2) hy (backOf (W := wd) (Q := Qc n0 Q2) C hZ w4 w3 hr1 hr2) qa qc (g := mkF m pc Ls st) rfl (hsz.trans hml.symm) (Steps.refl _) (argsL := argsL) (rest := rest) (lenOf hpd hlen) hst (by show 2 * 0 + _ ≤ _; omega) hd (fun _ _ => ⟨rfl, eT, hr3, hr4⟩)
  dsimp only [Pt.U, Pt.locs, Pt.cells, Pt.slots] at X' l' y' z' st' hQ
  subst l' y' z' hp
  exact W.fwd st' (w v T' T'.heap ⟨_, X', rfl, Fr.app N hQ.1, hQ.2.1, hr3, hr4, hx, hZ, rfl, hml, hown, hnm, hret, hlk⟩ hQ.2.2)
theorem w_initO (X : Sn Z n0 bs mx own nm ret p l e R s m args below meth c T h cells slots) {idx : Nat} {a : Addr} {wd : Nat} (hd : decode bs pc = .ok (.invokespecial idx, 3)) (w1 : (Cond.methodLink own idx Lib.objectInit).before a0 Z = true) (w2 : (Cond.instanceMethod Lib.objectInit).before a0 Z = true) (w3 : (Cond.code Lib.objectInit ⟨#[0xb1]⟩ 1 none).before a0 Z = true)
    (hsz : Ls.size = mx) (hwd : (st.map fun v => v.category).sum ≤ wd) (hr : 1 ≤ R.frames ∧ wd + 12 ≤ R.locals ∧ pc + 3 = pc') (w : ∀ T', Sn Z n0 bs mx own nm ret p l e R s m args below meth c T' h cells slots → W p e below s R n0 Q (T'.setTop (mkF m pc' Ls (st)))) : W p e below s R n0 Q (T.setTop (mkF m pc Ls (.ref a :: st))) := by
  obtain ⟨locs, X, eT, N, hs0, hcl, hsl, hx, hZ, rfl, hml, hown, hnm, hret, hlk⟩ := X
  obtain ⟨hr1, hr2, hp⟩ := hr
  subst hp
  obtain ⟨T', X', e', st'⟩ := initO X hx hZ hown w1 w2 w3 eT (g := mkF m pc Ls (.ref a :: st)) rfl (hsz.trans hml.symm) rfl hd hr1 (W := wd) (by show 2 * 0 + _ ≤ _; omega) hr2
  exact W.of st' (w T' ⟨_, X', e', N, hs0, hcl, hsl, hx, hZ, rfl, hml, hown, hnm, hret, hlk⟩)
theorem w_getfield (X : Sn Z n0 bs mx own nm ret p l e R s m args below meth c T h cells slots) {R0 O n d : String} {index : Nat} {a : Addr} {v : Value} (F : Fld Z h a O n d v) (hd : decode bs pc = .ok (.getfield index, 3)) (w1 : (Cond.fieldLink own index R0 n d).before a0 Z = true) (via : Via Z R0 O n d) (hp : pc + 3 = pc')
    (w : ∀ T', Sn Z n0 bs mx own nm ret p l e R s m args below meth c T' h cells slots → W p e below s R n0 Q (T'.setTop (mkF m pc' Ls (v :: st)))) : W p e below s R n0 Q (T.setTop (mkF m pc Ls (.ref a :: st))) := by
  obtain ⟨locs, X, eT, N, hs0, hcl, hsl, hx, hZ, rfl, hml, hown, hnm, hret, hlk⟩ := X
  subst hp
  obtain ⟨T', X', e', st'⟩ := getF X hx hZ hown (host := "") (Or.inl w1) via eT F (g := mkF m pc Ls (.ref a :: st)) rfl rfl hd
  exact W.of st' (w T' ⟨_, X', e', N, hs0, hcl, hsl, hx, hZ, rfl, hml, hown, hnm, hret, hlk⟩)
theorem w_putfield (X : Sn Z n0 bs mx own nm ret p l e R s m args below meth c T h cells slots) {R0 O n d K : String} {index kk : Nat} {ty : FieldType} {a : Addr} {v v' old : Value} (F : Fld Z h a O n d old) (E : Exa Z h a K) (hd : decode bs pc = .ok (.putfield index, 3)) (w1 : (Cond.fieldLink own index R0 n d).before a0 Z = true) (via : Via Z R0 O n d)
    (L : (Cond.lays K O n d).before a0 Z = true ∨ ((Cond.laysFinal K O n d).before a0 Z = true ∧ own = O ∧ nm = "<init>")) (wi : (Cond.instantiable K kk).before a0 Z = true) (hty : parseFieldDescriptor d = some ty) (hn : narrow ty v = v') (hf : fits ty v' = true) (hp : pc + 3 = pc') (ha : n0 ≤ a)
    (w : ∀ T' h', Sn Z n0 bs mx own nm ret p l e R s m args below meth c T' h' cells slots → Wr h h' a (Jvm.RoadKit.slotOf Z O n d) v' → W p e below s R n0 Q (T'.setTop (mkF m pc' Ls (st)))) : W p e below s R n0 Q (T.setTop (mkF m pc Ls (v :: .ref a :: st))) := by
  obtain ⟨locs, X, eT, N, hs0, hcl, hsl, hx, hZ, rfl, hml, hown, hnm, hret, hlk⟩ := X
  subst hp
  obtain ⟨T', h', X', e', W', st'⟩ := putFN X hx hZ hown w1 via eT F E (L.imp id fun q => ⟨q.1, q.2.1, hnm.trans q.2.2⟩) wi hty hn hf (g := mkF m pc Ls (v :: .ref a :: st)) rfl rfl hd
  exact W.of st' (w T' h' ⟨_, X', e', Fr.snoc X' N ha, by rw [W'.size]; exact hs0, hcl, hsl, hx, hZ, rfl, hml, hown, hnm, hret, hlk⟩ W')
theorem w_new (X : Sn Z n0 bs mx own nm ret p l e R s m args below meth c T h cells slots) {K : String} {index kk : Nat} (hd : decode bs pc = .ok (.new index, 3)) (w1 : (Cond.classLink own index K).before a0 Z = true) (wi : (Cond.instantiable K kk).before a0 Z = true) (wz : (Cond.initialized K).before a0 Z = true) (hr : cells + 1 ≤ R.cells ∧ slots + kk ≤ R.slots ∧ pc + 3 = pc')
    (w : ∀ T' h' b, Sn Z n0 bs mx own nm ret p l e R s m args below meth c T' h' (cells + 1) (slots + kk) → Ext h h' → b = h.size → n0 ≤ b → Exa Z h' b K → (∀ {O nm d : String} {ty : FieldType}, Laid Z a0 K O nm d → parseFieldDescriptor d = some ty → Fld Z h' b O nm d (defaultValue ty)) → W p e below s R n0 Q (T'.setTop (mkF m pc' Ls (.ref b :: st)))) : W p e below s R n0 Q (T.setTop (mkF m pc Ls (st))) := by
  obtain ⟨locs, X, eT, N, hs0, hcl, hsl, hx, hZ, rfl, hml, hown, hnm, hret, hlk⟩ := X
  obtain ⟨hr1, hr2, hp⟩ := hr
  subst hp
  obtain ⟨T', h', X', e', E', A', D', -, st'⟩ := newO X hx hZ hown w1 wi wz eT (g := mkF m pc Ls st) rfl hd hr1 hr2
  exact W.of st' (w T' h' _ ⟨_, X', e', N, Nat.le_trans hs0 E'.1, hr1, hr2, hx, hZ, rfl, hml, hown, hnm, hret, hlk⟩ E' rfl hs0 A' D')
end
end Jvm.OwnW
namespace Jvm.Pilot.@@N@@
open Jvm Jvm.ClassFile Sem Op Lib Jvm.Free Jvm.Stand Jvm.LawKit Jvm.RoadKit Bundle Jvm.OwnW Jvm.Pilot.@@N@@.Jvm.D

def own_A (x y u v : Int64) : Nat → Int64 := fun j => if j = 0 then x else if j = 1 then y else if j = 2 then u else if j = 3 then v else if j = 4 then x ^^^ y else if j = 5 then u - v else if j = 6 then 3 * x + 1 else if j = 7 then -y else if j = 8 then x + u else y * 5 - v
def own_B (x y u v : Int64) : Nat → Int64 := fun j => if j = 0 then u else if j = 1 then v else if j = 2 then x else if j = 3 then y else if j = 4 then u ^^^ v else if j = 5 then x - y else if j = 6 then 7 * v - 2 else if j = 7 then -u else if j = 8 then y + v else u * 3 + x
def own_G (x y u v : Int64) : Nat → Int64 := fun j => if j = 0 then x ^^^ -1 else if j = 1 then y ^^^ -1 else if j = 2 then u ^^^ -1 else if j = 3 then v ^^^ -1 else if j = 4 then x + u else if j = 5 then y + v else if j = 6 then x - v else if j = 7 then y - u else if j = 8 then x * 9 else v * 11
theorem own_i {i : Nat} (h : i < 2 ^ 31) : (Int32.ofNat i).toInt = i := Int32.toInt_ofNat_small h
theorem own_succ (i : Nat) : Int32.ofNat i + 1 = Int32.ofNat (i + 1) := (Int32.ofNat_add i 1).symm
theorem own_any {Z : State} {h h' : Heap} {a b : Addr} {ty : FieldType} {n i : Nat} {f : Nat → Value} {v : Value} (F : AF Z h a ty n f) (Wq : Wr h h' b i v) : ∃ f', AF Z h' a ty n f' ∧ ∀ j, j ≠ i → f' j = f j := by
  by_cases q : a = b
  · subst q; exact ⟨_, F.set Wq, fun j hj => up_ne hj⟩
  · exact ⟨_, F.other Wq q, fun _ _ => rfl⟩
theorem own_4 (x : Int32) : (x &&& 3) = 0 ∨ (x &&& 3) = 1 ∨ (x &&& 3) = 2 ∨ (x &&& 3) = 3 := by
  have e1 : (x &&& 3).toInt = x.toInt % 2 ^ 2 := Jvm.Kit.i32_mask x 3 (k := 2) (by decide) (by decide)
  have : (x &&& 3).toInt = 0 ∨ (x &&& 3).toInt = 1 ∨ (x &&& 3).toInt = 2 ∨ (x &&& 3).toInt = 3 := by omega
  rcases this with h | h | h | h
  · exact Or.inl (Int32.toInt_inj.mp h)
  · exact Or.inr (Or.inl (Int32.toInt_inj.mp h))
  · exact Or.inr (Or.inr (Or.inl (Int32.toInt_inj.mp h)))
  · exact Or.inr (Or.inr (Or.inr (Int32.toInt_inj.mp h)))
theorem own_st {s fa fb : Nat → Int64} {i : Nat} : ∀ j, up (fun j => .long (if j < i then fa j + fb j else s j)) i (.long (fa i + fb i)) j = .long (if j < i + 1 then fa j + fb j else s j) := fun j => by
  unfold up
  by_cases q : j = i
  · subst q; rw [if_pos rfl, if_pos (Nat.lt_succ_self _)]
  · rw [if_neg q]
    show Value.long (if j < i then fa j + fb j else s j) = _
    by_cases r : j < i
    · rw [if_pos r, if_pos (by omega)]
    · rw [if_neg r, if_neg (by omega)]

theorem d1_0 : decode method_2_code 0 = .ok (.bipush 10, 2) := by decide +kernel
theorem d1_2 : decode method_2_code 2 = .ok (.newarray .long, 2) := by decide +kernel
theorem d1_4 : decode method_2_code 4 = .ok (.dup, 1) := by decide +kernel
theorem d1_5 : decode method_2_code 5 = .ok (.iconst 0, 1) := by decide +kernel
theorem d1_6 : decode method_2_code 6 = .ok (.lload_n 0, 1) := by decide +kernel
theorem d1_7 : decode method_2_code 7 = .ok (.lastore, 1) := by decide +kernel
theorem d1_8 : decode method_2_code 8 = .ok (.dup, 1) := by decide +kernel
theorem d1_9 : decode method_2_code 9 = .ok (.iconst 1, 1) := by decide +kernel
theorem d1_10 : decode method_2_code 10 = .ok (.lload_n 2, 1) := by decide +kernel
theorem d1_11 : decode method_2_code 11 = .ok (.lastore, 1) := by decide +kernel
theorem d1_12 : decode method_2_code 12 = .ok (.dup, 1) := by decide +kernel
theorem d1_13 : decode method_2_code 13 = .ok (.iconst 2, 1) := by decide +kernel
theorem d1_14 : decode method_2_code 14 = .ok (.lload 4, 2) := by decide +kernel
theorem d1_16 : decode method_2_code 16 = .ok (.lastore, 1) := by decide +kernel
theorem d1_17 : decode method_2_code 17 = .ok (.dup, 1) := by decide +kernel
theorem d1_18 : decode method_2_code 18 = .ok (.iconst 3, 1) := by decide +kernel
theorem d1_19 : decode method_2_code 19 = .ok (.lload 6, 2) := by decide +kernel
theorem d1_21 : decode method_2_code 21 = .ok (.lastore, 1) := by decide +kernel
theorem d1_22 : decode method_2_code 22 = .ok (.dup, 1) := by decide +kernel
theorem d1_23 : decode method_2_code 23 = .ok (.iconst 4, 1) := by decide +kernel
theorem d1_24 : decode method_2_code 24 = .ok (.lload_n 0, 1) := by decide +kernel
theorem d1_25 : decode method_2_code 25 = .ok (.lload_n 2, 1) := by decide +kernel
theorem d1_26 : decode method_2_code 26 = .ok (.lxor, 1) := by decide +kernel
theorem d1_27 : decode method_2_code 27 = .ok (.lastore, 1) := by decide +kernel
theorem d1_28 : decode method_2_code 28 = .ok (.dup, 1) := by decide +kernel
theorem d1_29 : decode method_2_code 29 = .ok (.iconst 5, 1) := by decide +kernel
theorem d1_30 : decode method_2_code 30 = .ok (.lload 4, 2) := by decide +kernel
theorem d1_32 : decode method_2_code 32 = .ok (.lload 6, 2) := by decide +kernel
theorem d1_34 : decode method_2_code 34 = .ok (.lsub, 1) := by decide +kernel
theorem d1_35 : decode method_2_code 35 = .ok (.lastore, 1) := by decide +kernel
theorem d1_36 : decode method_2_code 36 = .ok (.dup, 1) := by decide +kernel
theorem d1_37 : decode method_2_code 37 = .ok (.bipush 6, 2) := by decide +kernel
theorem d1_39 : decode method_2_code 39 = .ok (.ldc2_w 7, 3) := by decide +kernel
theorem d1_42 : decode method_2_code 42 = .ok (.lload_n 0, 1) := by decide +kernel
theorem d1_43 : decode method_2_code 43 = .ok (.lmul, 1) := by decide +kernel
theorem d1_44 : decode method_2_code 44 = .ok (.lconst 1, 1) := by decide +kernel
theorem d1_45 : decode method_2_code 45 = .ok (.ladd, 1) := by decide +kernel
theorem d1_46 : decode method_2_code 46 = .ok (.lastore, 1) := by decide +kernel
theorem d1_47 : decode method_2_code 47 = .ok (.dup, 1) := by decide +kernel
theorem d1_48 : decode method_2_code 48 = .ok (.bipush 7, 2) := by decide +kernel
theorem d1_50 : decode method_2_code 50 = .ok (.lload_n 2, 1) := by decide +kernel
theorem d1_51 : decode method_2_code 51 = .ok (.lneg, 1) := by decide +kernel
theorem d1_52 : decode method_2_code 52 = .ok (.lastore, 1) := by decide +kernel
theorem d1_53 : decode method_2_code 53 = .ok (.dup, 1) := by decide +kernel
theorem d1_54 : decode method_2_code 54 = .ok (.bipush 8, 2) := by decide +kernel
theorem d1_56 : decode method_2_code 56 = .ok (.lload_n 0, 1) := by decide +kernel
theorem d1_57 : decode method_2_code 57 = .ok (.lload 4, 2) := by decide +kernel
theorem d1_59 : decode method_2_code 59 = .ok (.ladd, 1) := by decide +kernel
theorem d1_60 : decode method_2_code 60 = .ok (.lastore, 1) := by decide +kernel
theorem d1_61 : decode method_2_code 61 = .ok (.dup, 1) := by decide +kernel
theorem d1_62 : decode method_2_code 62 = .ok (.bipush 9, 2) := by decide +kernel
theorem d1_64 : decode method_2_code 64 = .ok (.lload_n 2, 1) := by decide +kernel
theorem d1_65 : decode method_2_code 65 = .ok (.ldc2_w 9, 3) := by decide +kernel
theorem d1_68 : decode method_2_code 68 = .ok (.lmul, 1) := by decide +kernel
theorem d1_69 : decode method_2_code 69 = .ok (.lload 6, 2) := by decide +kernel
theorem d1_71 : decode method_2_code 71 = .ok (.lsub, 1) := by decide +kernel
theorem d1_72 : decode method_2_code 72 = .ok (.lastore, 1) := by decide +kernel
theorem d1_73 : decode method_2_code 73 = .ok (.areturn, 1) := by decide +kernel
theorem pn_1 : plainName "com/example/plain_audit/plainaudit/trail/Field25519AddPinLaw" = true := by first | (simp [plainName, overriddenIn]; done) | decide +kernel
theorem rm1_ef (m : MethodId) (x : Int64) (y : Int64) (u : Int64) (v1 : Int64) : entryFrame m #[(.long x), (.long y), (.long u), (.long v1)] 8 = mkF m 0 #[.val (.long x), .second, .val (.long y), .second, .val (.long u), .second, .val (.long v1), .second] [] := by first | (simp [entryFrame, mkF, argsToLocals, Value.category]; done) | rfl
abbrev rm1_Q (Z : State) (x : Int64) (y : Int64) (u : Int64) (v1 : Int64) (h0 : Heap) (n0 : Nat) : Option Value → Heap → Prop := fun v h => ∃ b, v = some (.ref b) ∧ h0.size ≤ b ∧ Keep h0 h [] ∧ AF Z h b .long 10 (fun j => .long (own_A x y u v1 j))
set_option maxRecDepth 65536 in
set_option maxHeartbeats 40000000 in
theorem rm1 (l : Launch) (Z : State) (a0 : Array Value) (hw : ∀ d ∈ tables_1, d.before a0 Z = true) (ws : List Jvm.Cond) (x : Int64) (y : Int64) (u : Int64) (v1 : Int64) (h : Heap) (n0 : Nat) (hn0 : n0 ≤ h.size) :
    Ct l Z (⟨"com/example/plain_audit/plainaudit/trail/Field25519AddPinLaw", "makeA", "(JJJJ)[J"⟩ : MethodName) method_2_code 8 (some (.array .long)) ws ({ frames := 0, cells := 1, slots := 10, locals := 0 } : Room) #[(.long x), (.long y), (.long u), (.long v1)] h n0 (rm1_Q Z x y u v1 h n0) := by
  refine Ct.of (plainFor_of_name pn_1) hn0 (fun m => rm1_ef m x y u v1) ?_
  intro p e s m below meth c T0 X0
  replace X0 : Sn Z n0 method_2_code 8 "com/example/plain_audit/plainaudit/trail/Field25519AddPinLaw" "makeA" (some (.array .long)) p l e ({ frames := 0, cells := 1, slots := 10, locals := 0 } : Room) s m #[(.long x), (.long y), (.long u), (.long v1)] below meth c T0 h 0 0 := X0
  have K0 := Keep.refl h []
  refine w_bipush (pc' := 2) (z := (10 : Int32)) X0 d1_0 rfl rfl ?_
  refine w_newarray (pc' := 4) (n := 10) (cap := 10) X0 d1_2 (hw _ (List.mem_of_getElem? (i := 4) rfl)) rfl (by decide) (by decide) (fun T1 h1 b1 X1 E1 q1 g1 F1 => ?_)
  have K2 := K0.ext E1
  have kp1 : h.size ≤ b1 := Nat.le_trans K0.1 (Nat.le_of_eq q1.symm)
  refine w_dup (pc' := 5) X1 d1_4 rfl rfl ?_
  refine w_iconst (pc' := 6) (z := (0 : Int32)) X1 d1_5 rfl rfl ?_
  refine w_lloadN (pc' := 7) X1 d1_6 rfl rfl ?_
  refine w_lastore (pc' := 8) (i := 0) X1 F1 d1_7 rfl (by decide) rfl g1 (fun T3 h3 X3 W3 => ?_)
  have F3 := F1.set W3
  have K3 := K2.wr W3 (Or.inr kp1)
  refine w_dup (pc' := 9) X3 d1_8 rfl rfl ?_
  refine w_iconst (pc' := 10) (z := (1 : Int32)) X3 d1_9 rfl rfl ?_
  refine w_lloadN (pc' := 11) X3 d1_10 rfl rfl ?_
  refine w_lastore (pc' := 12) (i := 1) X3 F3 d1_11 rfl (by decide) rfl g1 (fun T4 h4 X4 W4 => ?_)
  have F4 := F3.set W4
  have K4 := K3.wr W4 (Or.inr kp1)
  refine w_dup (pc' := 13) X4 d1_12 rfl rfl ?_
  refine w_iconst (pc' := 14) (z := (2 : Int32)) X4 d1_13 rfl rfl ?_
  refine w_lload (pc' := 16) X4 d1_14 rfl rfl ?_
  refine w_lastore (pc' := 17) (i := 2) X4 F4 d1_16 rfl (by decide) rfl g1 (fun T5 h5 X5 W5 => ?_)
  have F5 := F4.set W5
  have K5 := K4.wr W5 (Or.inr kp1)
  refine w_dup (pc' := 18) X5 d1_17 rfl rfl ?_
  refine w_iconst (pc' := 19) (z := (3 : Int32)) X5 d1_18 rfl rfl ?_
  refine w_lload (pc' := 21) X5 d1_19 rfl rfl ?_
  refine w_lastore (pc' := 22) (i := 3) X5 F5 d1_21 rfl (by decide) rfl g1 (fun T6 h6 X6 W6 => ?_)
  have F6 := F5.set W6
  have K6 := K5.wr W6 (Or.inr kp1)
  refine w_dup (pc' := 23) X6 d1_22 rfl rfl ?_
  refine w_iconst (pc' := 24) (z := (4 : Int32)) X6 d1_23 rfl rfl ?_
  refine w_lloadN (pc' := 25) X6 d1_24 rfl rfl ?_
  refine w_lloadN (pc' := 26) X6 d1_25 rfl rfl ?_
  refine w_lxor (pc' := 27) X6 d1_26 rfl ?_
  refine w_lastore (pc' := 28) (i := 4) X6 F6 d1_27 rfl (by decide) rfl g1 (fun T7 h7 X7 W7 => ?_)
  have F7 := F6.set W7
  have K7 := K6.wr W7 (Or.inr kp1)
  refine w_dup (pc' := 29) X7 d1_28 rfl rfl ?_
  refine w_iconst (pc' := 30) (z := (5 : Int32)) X7 d1_29 rfl rfl ?_
  refine w_lload (pc' := 32) X7 d1_30 rfl rfl ?_
  refine w_lload (pc' := 34) X7 d1_32 rfl rfl ?_
  refine w_lsub (pc' := 35) X7 d1_34 rfl ?_
  refine w_lastore (pc' := 36) (i := 5) X7 F7 d1_35 rfl (by decide) rfl g1 (fun T8 h8 X8 W8 => ?_)
  have F8 := F7.set W8
  have K8 := K7.wr W8 (Or.inr kp1)
  refine w_dup (pc' := 37) X8 d1_36 rfl rfl ?_
  refine w_bipush (pc' := 39) (z := (6 : Int32)) X8 d1_37 rfl rfl ?_
  refine w_ldc2 (pc' := 42) (z := (3 : Int64)) X8 d1_39 (hw _ (List.mem_of_getElem? (i := 5) rfl)) rfl ?_
  refine w_lloadN (pc' := 43) X8 d1_42 rfl rfl ?_
  refine w_lmul (pc' := 44) X8 d1_43 rfl ?_
  refine w_lconst (pc' := 45) (z := (1 : Int64)) X8 d1_44 rfl rfl ?_
  refine w_ladd (pc' := 46) X8 d1_45 rfl ?_
  refine w_lastore (pc' := 47) (i := 6) X8 F8 d1_46 rfl (by decide) rfl g1 (fun T9 h9 X9 W9 => ?_)
  have F9 := F8.set W9
  have K9 := K8.wr W9 (Or.inr kp1)
  refine w_dup (pc' := 48) X9 d1_47 rfl rfl ?_
  refine w_bipush (pc' := 50) (z := (7 : Int32)) X9 d1_48 rfl rfl ?_
  refine w_lloadN (pc' := 51) X9 d1_50 rfl rfl ?_
  refine w_lneg (pc' := 52) X9 d1_51 rfl ?_
  refine w_lastore (pc' := 53) (i := 7) X9 F9 d1_52 rfl (by decide) rfl g1 (fun T10 h10 X10 W10 => ?_)
  have F10 := F9.set W10
  have K10 := K9.wr W10 (Or.inr kp1)
  refine w_dup (pc' := 54) X10 d1_53 rfl rfl ?_
  refine w_bipush (pc' := 56) (z := (8 : Int32)) X10 d1_54 rfl rfl ?_
  refine w_lloadN (pc' := 57) X10 d1_56 rfl rfl ?_
  refine w_lload (pc' := 59) X10 d1_57 rfl rfl ?_
  refine w_ladd (pc' := 60) X10 d1_59 rfl ?_
  refine w_lastore (pc' := 61) (i := 8) X10 F10 d1_60 rfl (by decide) rfl g1 (fun T11 h11 X11 W11 => ?_)
  have F11 := F10.set W11
  have K11 := K10.wr W11 (Or.inr kp1)
  refine w_dup (pc' := 62) X11 d1_61 rfl rfl ?_
  refine w_bipush (pc' := 64) (z := (9 : Int32)) X11 d1_62 rfl rfl ?_
  refine w_lloadN (pc' := 65) X11 d1_64 rfl rfl ?_
  refine w_ldc2 (pc' := 68) (z := (5 : Int64)) X11 d1_65 (hw _ (List.mem_of_getElem? (i := 6) rfl)) rfl ?_
  refine w_lmul (pc' := 69) X11 d1_68 rfl ?_
  refine w_lload (pc' := 71) X11 d1_69 rfl rfl ?_
  refine w_lsub (pc' := 72) X11 d1_71 rfl ?_
  refine w_lastore (pc' := 73) (i := 9) X11 F11 d1_72 rfl (by decide) rfl g1 (fun T12 h12 X12 W12 => ?_)
  have F12 := F11.set W12
  have K12 := K11.wr W12 (Or.inr kp1)
  have Fz : AF Z h12 b1 .long 10 (fun j => .long (own_A x y u v1 j)) := F12.congr (by
    intro j hj
    match j, hj with
    | 0, _ => rfl
    | 1, _ => rfl
    | 2, _ => rfl
    | 3, _ => rfl
    | 4, _ => rfl
    | 5, _ => rfl
    | 6, _ => rfl
    | 7, _ => rfl
    | 8, _ => rfl
    | 9, _ => rfl
    | _ + 10, hj => exact absurd hj (by omega))
  exact w_areturn (t := (.array .long)) X12 d1_73 rfl rfl rfl rfl (⟨b1, rfl, kp1, K12, Fz⟩)
theorem d2_0 : decode method_3_code 0 = .ok (.bipush 10, 2) := by decide +kernel
theorem d2_2 : decode method_3_code 2 = .ok (.newarray .long, 2) := by decide +kernel
theorem d2_4 : decode method_3_code 4 = .ok (.dup, 1) := by decide +kernel
theorem d2_5 : decode method_3_code 5 = .ok (.iconst 0, 1) := by decide +kernel
theorem d2_6 : decode method_3_code 6 = .ok (.lload 4, 2) := by decide +kernel
theorem d2_8 : decode method_3_code 8 = .ok (.lastore, 1) := by decide +kernel
theorem d2_9 : decode method_3_code 9 = .ok (.dup, 1) := by decide +kernel
theorem d2_10 : decode method_3_code 10 = .ok (.iconst 1, 1) := by decide +kernel
theorem d2_11 : decode method_3_code 11 = .ok (.lload 6, 2) := by decide +kernel
theorem d2_13 : decode method_3_code 13 = .ok (.lastore, 1) := by decide +kernel
theorem d2_14 : decode method_3_code 14 = .ok (.dup, 1) := by decide +kernel
theorem d2_15 : decode method_3_code 15 = .ok (.iconst 2, 1) := by decide +kernel
theorem d2_16 : decode method_3_code 16 = .ok (.lload_n 0, 1) := by decide +kernel
theorem d2_17 : decode method_3_code 17 = .ok (.lastore, 1) := by decide +kernel
theorem d2_18 : decode method_3_code 18 = .ok (.dup, 1) := by decide +kernel
theorem d2_19 : decode method_3_code 19 = .ok (.iconst 3, 1) := by decide +kernel
theorem d2_20 : decode method_3_code 20 = .ok (.lload_n 2, 1) := by decide +kernel
theorem d2_21 : decode method_3_code 21 = .ok (.lastore, 1) := by decide +kernel
theorem d2_22 : decode method_3_code 22 = .ok (.dup, 1) := by decide +kernel
theorem d2_23 : decode method_3_code 23 = .ok (.iconst 4, 1) := by decide +kernel
theorem d2_24 : decode method_3_code 24 = .ok (.lload 4, 2) := by decide +kernel
theorem d2_26 : decode method_3_code 26 = .ok (.lload 6, 2) := by decide +kernel
theorem d2_28 : decode method_3_code 28 = .ok (.lxor, 1) := by decide +kernel
theorem d2_29 : decode method_3_code 29 = .ok (.lastore, 1) := by decide +kernel
theorem d2_30 : decode method_3_code 30 = .ok (.dup, 1) := by decide +kernel
theorem d2_31 : decode method_3_code 31 = .ok (.iconst 5, 1) := by decide +kernel
theorem d2_32 : decode method_3_code 32 = .ok (.lload_n 0, 1) := by decide +kernel
theorem d2_33 : decode method_3_code 33 = .ok (.lload_n 2, 1) := by decide +kernel
theorem d2_34 : decode method_3_code 34 = .ok (.lsub, 1) := by decide +kernel
theorem d2_35 : decode method_3_code 35 = .ok (.lastore, 1) := by decide +kernel
theorem d2_36 : decode method_3_code 36 = .ok (.dup, 1) := by decide +kernel
theorem d2_37 : decode method_3_code 37 = .ok (.bipush 6, 2) := by decide +kernel
theorem d2_39 : decode method_3_code 39 = .ok (.ldc2_w 11, 3) := by decide +kernel
theorem d2_42 : decode method_3_code 42 = .ok (.lload 6, 2) := by decide +kernel
theorem d2_44 : decode method_3_code 44 = .ok (.lmul, 1) := by decide +kernel
theorem d2_45 : decode method_3_code 45 = .ok (.ldc2_w 13, 3) := by decide +kernel
theorem d2_48 : decode method_3_code 48 = .ok (.lsub, 1) := by decide +kernel
theorem d2_49 : decode method_3_code 49 = .ok (.lastore, 1) := by decide +kernel
theorem d2_50 : decode method_3_code 50 = .ok (.dup, 1) := by decide +kernel
theorem d2_51 : decode method_3_code 51 = .ok (.bipush 7, 2) := by decide +kernel
theorem d2_53 : decode method_3_code 53 = .ok (.lload 4, 2) := by decide +kernel
theorem d2_55 : decode method_3_code 55 = .ok (.lneg, 1) := by decide +kernel
theorem d2_56 : decode method_3_code 56 = .ok (.lastore, 1) := by decide +kernel
theorem d2_57 : decode method_3_code 57 = .ok (.dup, 1) := by decide +kernel
theorem d2_58 : decode method_3_code 58 = .ok (.bipush 8, 2) := by decide +kernel
theorem d2_60 : decode method_3_code 60 = .ok (.lload_n 2, 1) := by decide +kernel
theorem d2_61 : decode method_3_code 61 = .ok (.lload 6, 2) := by decide +kernel
theorem d2_63 : decode method_3_code 63 = .ok (.ladd, 1) := by decide +kernel
theorem d2_64 : decode method_3_code 64 = .ok (.lastore, 1) := by decide +kernel
theorem d2_65 : decode method_3_code 65 = .ok (.dup, 1) := by decide +kernel
theorem d2_66 : decode method_3_code 66 = .ok (.bipush 9, 2) := by decide +kernel
theorem d2_68 : decode method_3_code 68 = .ok (.lload 4, 2) := by decide +kernel
theorem d2_70 : decode method_3_code 70 = .ok (.ldc2_w 7, 3) := by decide +kernel
theorem d2_73 : decode method_3_code 73 = .ok (.lmul, 1) := by decide +kernel
theorem d2_74 : decode method_3_code 74 = .ok (.lload_n 0, 1) := by decide +kernel
theorem d2_75 : decode method_3_code 75 = .ok (.ladd, 1) := by decide +kernel
theorem d2_76 : decode method_3_code 76 = .ok (.lastore, 1) := by decide +kernel
theorem d2_77 : decode method_3_code 77 = .ok (.areturn, 1) := by decide +kernel
theorem rm2_ef (m : MethodId) (x : Int64) (y : Int64) (u : Int64) (v1 : Int64) : entryFrame m #[(.long x), (.long y), (.long u), (.long v1)] 8 = mkF m 0 #[.val (.long x), .second, .val (.long y), .second, .val (.long u), .second, .val (.long v1), .second] [] := by first | (simp [entryFrame, mkF, argsToLocals, Value.category]; done) | rfl
abbrev rm2_Q (Z : State) (x : Int64) (y : Int64) (u : Int64) (v1 : Int64) (h0 : Heap) (n0 : Nat) : Option Value → Heap → Prop := fun v h => ∃ b, v = some (.ref b) ∧ h0.size ≤ b ∧ Keep h0 h [] ∧ AF Z h b .long 10 (fun j => .long (own_B x y u v1 j))
set_option maxRecDepth 65536 in
set_option maxHeartbeats 40000000 in
theorem rm2 (l : Launch) (Z : State) (a0 : Array Value) (hw : ∀ d ∈ tables_1, d.before a0 Z = true) (ws : List Jvm.Cond) (x : Int64) (y : Int64) (u : Int64) (v1 : Int64) (h : Heap) (n0 : Nat) (hn0 : n0 ≤ h.size) :
    Ct l Z (⟨"com/example/plain_audit/plainaudit/trail/Field25519AddPinLaw", "makeB", "(JJJJ)[J"⟩ : MethodName) method_3_code 8 (some (.array .long)) ws ({ frames := 0, cells := 1, slots := 10, locals := 0 } : Room) #[(.long x), (.long y), (.long u), (.long v1)] h n0 (rm2_Q Z x y u v1 h n0) := by
  refine Ct.of (plainFor_of_name pn_1) hn0 (fun m => rm2_ef m x y u v1) ?_
  intro p e s m below meth c T0 X0
  replace X0 : Sn Z n0 method_3_code 8 "com/example/plain_audit/plainaudit/trail/Field25519AddPinLaw" "makeB" (some (.array .long)) p l e ({ frames := 0, cells := 1, slots := 10, locals := 0 } : Room) s m #[(.long x), (.long y), (.long u), (.long v1)] below meth c T0 h 0 0 := X0
  have K0 := Keep.refl h []
  refine w_bipush (pc' := 2) (z := (10 : Int32)) X0 d2_0 rfl rfl ?_
  refine w_newarray (pc' := 4) (n := 10) (cap := 10) X0 d2_2 (hw _ (List.mem_of_getElem? (i := 4) rfl)) rfl (by decide) (by decide) (fun T1 h1 b1 X1 E1 q1 g1 F1 => ?_)
  have K2 := K0.ext E1
  have kp1 : h.size ≤ b1 := Nat.le_trans K0.1 (Nat.le_of_eq q1.symm)
  refine w_dup (pc' := 5) X1 d2_4 rfl rfl ?_
  refine w_iconst (pc' := 6) (z := (0 : Int32)) X1 d2_5 rfl rfl ?_
  refine w_lload (pc' := 8) X1 d2_6 rfl rfl ?_
  refine w_lastore (pc' := 9) (i := 0) X1 F1 d2_8 rfl (by decide) rfl g1 (fun T3 h3 X3 W3 => ?_)
  have F3 := F1.set W3
  have K3 := K2.wr W3 (Or.inr kp1)
  refine w_dup (pc' := 10) X3 d2_9 rfl rfl ?_
  refine w_iconst (pc' := 11) (z := (1 : Int32)) X3 d2_10 rfl rfl ?_
  refine w_lload (pc' := 13) X3 d2_11 rfl rfl ?_
  refine w_lastore (pc' := 14) (i := 1) X3 F3 d2_13 rfl (by decide) rfl g1 (fun T4 h4 X4 W4 => ?_)
  have F4 := F3.set W4
  have K4 := K3.wr W4 (Or.inr kp1)
  refine w_dup (pc' := 15) X4 d2_14 rfl rfl ?_
  refine w_iconst (pc' := 16) (z := (2 : Int32)) X4 d2_15 rfl rfl ?_
  refine w_lloadN (pc' := 17) X4 d2_16 rfl rfl ?_
  refine w_lastore (pc' := 18) (i := 2) X4 F4 d2_17 rfl (by decide) rfl g1 (fun T5 h5 X5 W5 => ?_)
  have F5 := F4.set W5
  have K5 := K4.wr W5 (Or.inr kp1)
  refine w_dup (pc' := 19) X5 d2_18 rfl rfl ?_
  refine w_iconst (pc' := 20) (z := (3 : Int32)) X5 d2_19 rfl rfl ?_
  refine w_lloadN (pc' := 21) X5 d2_20 rfl rfl ?_
  refine w_lastore (pc' := 22) (i := 3) X5 F5 d2_21 rfl (by decide) rfl g1 (fun T6 h6 X6 W6 => ?_)
  have F6 := F5.set W6
  have K6 := K5.wr W6 (Or.inr kp1)
  refine w_dup (pc' := 23) X6 d2_22 rfl rfl ?_
  refine w_iconst (pc' := 24) (z := (4 : Int32)) X6 d2_23 rfl rfl ?_
  refine w_lload (pc' := 26) X6 d2_24 rfl rfl ?_
  refine w_lload (pc' := 28) X6 d2_26 rfl rfl ?_
  refine w_lxor (pc' := 29) X6 d2_28 rfl ?_
  refine w_lastore (pc' := 30) (i := 4) X6 F6 d2_29 rfl (by decide) rfl g1 (fun T7 h7 X7 W7 => ?_)
  have F7 := F6.set W7
  have K7 := K6.wr W7 (Or.inr kp1)
  refine w_dup (pc' := 31) X7 d2_30 rfl rfl ?_
  refine w_iconst (pc' := 32) (z := (5 : Int32)) X7 d2_31 rfl rfl ?_
  refine w_lloadN (pc' := 33) X7 d2_32 rfl rfl ?_
  refine w_lloadN (pc' := 34) X7 d2_33 rfl rfl ?_
  refine w_lsub (pc' := 35) X7 d2_34 rfl ?_
  refine w_lastore (pc' := 36) (i := 5) X7 F7 d2_35 rfl (by decide) rfl g1 (fun T8 h8 X8 W8 => ?_)
  have F8 := F7.set W8
  have K8 := K7.wr W8 (Or.inr kp1)
  refine w_dup (pc' := 37) X8 d2_36 rfl rfl ?_
  refine w_bipush (pc' := 39) (z := (6 : Int32)) X8 d2_37 rfl rfl ?_
  refine w_ldc2 (pc' := 42) (z := (7 : Int64)) X8 d2_39 (hw _ (List.mem_of_getElem? (i := 10) rfl)) rfl ?_
  refine w_lload (pc' := 44) X8 d2_42 rfl rfl ?_
  refine w_lmul (pc' := 45) X8 d2_44 rfl ?_
  refine w_ldc2 (pc' := 48) (z := (2 : Int64)) X8 d2_45 (hw _ (List.mem_of_getElem? (i := 11) rfl)) rfl ?_
  refine w_lsub (pc' := 49) X8 d2_48 rfl ?_
  refine w_lastore (pc' := 50) (i := 6) X8 F8 d2_49 rfl (by decide) rfl g1 (fun T9 h9 X9 W9 => ?_)
  have F9 := F8.set W9
  have K9 := K8.wr W9 (Or.inr kp1)
  refine w_dup (pc' := 51) X9 d2_50 rfl rfl ?_
  refine w_bipush (pc' := 53) (z := (7 : Int32)) X9 d2_51 rfl rfl ?_
  refine w_lload (pc' := 55) X9 d2_53 rfl rfl ?_
  refine w_lneg (pc' := 56) X9 d2_55 rfl ?_
  refine w_lastore (pc' := 57) (i := 7) X9 F9 d2_56 rfl (by decide) rfl g1 (fun T10 h10 X10 W10 => ?_)
  have F10 := F9.set W10
  have K10 := K9.wr W10 (Or.inr kp1)
  refine w_dup (pc' := 58) X10 d2_57 rfl rfl ?_
  refine w_bipush (pc' := 60) (z := (8 : Int32)) X10 d2_58 rfl rfl ?_
  refine w_lloadN (pc' := 61) X10 d2_60 rfl rfl ?_
  refine w_lload (pc' := 63) X10 d2_61 rfl rfl ?_
  refine w_ladd (pc' := 64) X10 d2_63 rfl ?_
  refine w_lastore (pc' := 65) (i := 8) X10 F10 d2_64 rfl (by decide) rfl g1 (fun T11 h11 X11 W11 => ?_)
  have F11 := F10.set W11
  have K11 := K10.wr W11 (Or.inr kp1)
  refine w_dup (pc' := 66) X11 d2_65 rfl rfl ?_
  refine w_bipush (pc' := 68) (z := (9 : Int32)) X11 d2_66 rfl rfl ?_
  refine w_lload (pc' := 70) X11 d2_68 rfl rfl ?_
  refine w_ldc2 (pc' := 73) (z := (3 : Int64)) X11 d2_70 (hw _ (List.mem_of_getElem? (i := 5) rfl)) rfl ?_
  refine w_lmul (pc' := 74) X11 d2_73 rfl ?_
  refine w_lloadN (pc' := 75) X11 d2_74 rfl rfl ?_
  refine w_ladd (pc' := 76) X11 d2_75 rfl ?_
  refine w_lastore (pc' := 77) (i := 9) X11 F11 d2_76 rfl (by decide) rfl g1 (fun T12 h12 X12 W12 => ?_)
  have F12 := F11.set W12
  have K12 := K11.wr W12 (Or.inr kp1)
  have Fz : AF Z h12 b1 .long 10 (fun j => .long (own_B x y u v1 j)) := F12.congr (by
    intro j hj
    match j, hj with
    | 0, _ => rfl
    | 1, _ => rfl
    | 2, _ => rfl
    | 3, _ => rfl
    | 4, _ => rfl
    | 5, _ => rfl
    | 6, _ => rfl
    | 7, _ => rfl
    | 8, _ => rfl
    | 9, _ => rfl
    | _ + 10, hj => exact absurd hj (by omega))
  exact w_areturn (t := (.array .long)) X12 d2_77 rfl rfl rfl rfl (⟨b1, rfl, kp1, K12, Fz⟩)
theorem d5_0 : decode method_4_code 0 = .ok (.bipush 10, 2) := by decide +kernel
theorem d5_2 : decode method_4_code 2 = .ok (.newarray .long, 2) := by decide +kernel
theorem d5_4 : decode method_4_code 4 = .ok (.dup, 1) := by decide +kernel
theorem d5_5 : decode method_4_code 5 = .ok (.iconst 0, 1) := by decide +kernel
theorem d5_6 : decode method_4_code 6 = .ok (.lload_n 0, 1) := by decide +kernel
theorem d5_7 : decode method_4_code 7 = .ok (.ldc2_w 15, 3) := by decide +kernel
theorem d5_10 : decode method_4_code 10 = .ok (.lxor, 1) := by decide +kernel
theorem d5_11 : decode method_4_code 11 = .ok (.lastore, 1) := by decide +kernel
theorem d5_12 : decode method_4_code 12 = .ok (.dup, 1) := by decide +kernel
theorem d5_13 : decode method_4_code 13 = .ok (.iconst 1, 1) := by decide +kernel
theorem d5_14 : decode method_4_code 14 = .ok (.lload_n 2, 1) := by decide +kernel
theorem d5_15 : decode method_4_code 15 = .ok (.ldc2_w 15, 3) := by decide +kernel
theorem d5_18 : decode method_4_code 18 = .ok (.lxor, 1) := by decide +kernel
theorem d5_19 : decode method_4_code 19 = .ok (.lastore, 1) := by decide +kernel
theorem d5_20 : decode method_4_code 20 = .ok (.dup, 1) := by decide +kernel
theorem d5_21 : decode method_4_code 21 = .ok (.iconst 2, 1) := by decide +kernel
theorem d5_22 : decode method_4_code 22 = .ok (.lload 4, 2) := by decide +kernel
theorem d5_24 : decode method_4_code 24 = .ok (.ldc2_w 15, 3) := by decide +kernel
theorem d5_27 : decode method_4_code 27 = .ok (.lxor, 1) := by decide +kernel
theorem d5_28 : decode method_4_code 28 = .ok (.lastore, 1) := by decide +kernel
theorem d5_29 : decode method_4_code 29 = .ok (.dup, 1) := by decide +kernel
theorem d5_30 : decode method_4_code 30 = .ok (.iconst 3, 1) := by decide +kernel
theorem d5_31 : decode method_4_code 31 = .ok (.lload 6, 2) := by decide +kernel
theorem d5_33 : decode method_4_code 33 = .ok (.ldc2_w 15, 3) := by decide +kernel
theorem d5_36 : decode method_4_code 36 = .ok (.lxor, 1) := by decide +kernel
theorem d5_37 : decode method_4_code 37 = .ok (.lastore, 1) := by decide +kernel
theorem d5_38 : decode method_4_code 38 = .ok (.dup, 1) := by decide +kernel
theorem d5_39 : decode method_4_code 39 = .ok (.iconst 4, 1) := by decide +kernel
theorem d5_40 : decode method_4_code 40 = .ok (.lload_n 0, 1) := by decide +kernel
theorem d5_41 : decode method_4_code 41 = .ok (.lload 4, 2) := by decide +kernel
theorem d5_43 : decode method_4_code 43 = .ok (.ladd, 1) := by decide +kernel
theorem d5_44 : decode method_4_code 44 = .ok (.lastore, 1) := by decide +kernel
theorem d5_45 : decode method_4_code 45 = .ok (.dup, 1) := by decide +kernel
theorem d5_46 : decode method_4_code 46 = .ok (.iconst 5, 1) := by decide +kernel
theorem d5_47 : decode method_4_code 47 = .ok (.lload_n 2, 1) := by decide +kernel
theorem d5_48 : decode method_4_code 48 = .ok (.lload 6, 2) := by decide +kernel
theorem d5_50 : decode method_4_code 50 = .ok (.ladd, 1) := by decide +kernel
theorem d5_51 : decode method_4_code 51 = .ok (.lastore, 1) := by decide +kernel
theorem d5_52 : decode method_4_code 52 = .ok (.dup, 1) := by decide +kernel
theorem d5_53 : decode method_4_code 53 = .ok (.bipush 6, 2) := by decide +kernel
theorem d5_55 : decode method_4_code 55 = .ok (.lload_n 0, 1) := by decide +kernel
theorem d5_56 : decode method_4_code 56 = .ok (.lload 6, 2) := by decide +kernel
theorem d5_58 : decode method_4_code 58 = .ok (.lsub, 1) := by decide +kernel
theorem d5_59 : decode method_4_code 59 = .ok (.lastore, 1) := by decide +kernel
theorem d5_60 : decode method_4_code 60 = .ok (.dup, 1) := by decide +kernel
theorem d5_61 : decode method_4_code 61 = .ok (.bipush 7, 2) := by decide +kernel
theorem d5_63 : decode method_4_code 63 = .ok (.lload_n 2, 1) := by decide +kernel
theorem d5_64 : decode method_4_code 64 = .ok (.lload 4, 2) := by decide +kernel
theorem d5_66 : decode method_4_code 66 = .ok (.lsub, 1) := by decide +kernel
theorem d5_67 : decode method_4_code 67 = .ok (.lastore, 1) := by decide +kernel
theorem d5_68 : decode method_4_code 68 = .ok (.dup, 1) := by decide +kernel
theorem d5_69 : decode method_4_code 69 = .ok (.bipush 8, 2) := by decide +kernel
theorem d5_71 : decode method_4_code 71 = .ok (.lload_n 0, 1) := by decide +kernel
theorem d5_72 : decode method_4_code 72 = .ok (.ldc2_w 17, 3) := by decide +kernel
theorem d5_75 : decode method_4_code 75 = .ok (.lmul, 1) := by decide +kernel
theorem d5_76 : decode method_4_code 76 = .ok (.lastore, 1) := by decide +kernel
theorem d5_77 : decode method_4_code 77 = .ok (.dup, 1) := by decide +kernel
theorem d5_78 : decode method_4_code 78 = .ok (.bipush 9, 2) := by decide +kernel
theorem d5_80 : decode method_4_code 80 = .ok (.lload 6, 2) := by decide +kernel
theorem d5_82 : decode method_4_code 82 = .ok (.ldc2_w 19, 3) := by decide +kernel
theorem d5_85 : decode method_4_code 85 = .ok (.lmul, 1) := by decide +kernel
theorem d5_86 : decode method_4_code 86 = .ok (.lastore, 1) := by decide +kernel
theorem d5_87 : decode method_4_code 87 = .ok (.areturn, 1) := by decide +kernel
theorem rm5_ef (m : MethodId) (x : Int64) (y : Int64) (u : Int64) (v1 : Int64) : entryFrame m #[(.long x), (.long y), (.long u), (.long v1)] 8 = mkF m 0 #[.val (.long x), .second, .val (.long y), .second, .val (.long u), .second, .val (.long v1), .second] [] := by first | (simp [entryFrame, mkF, argsToLocals, Value.category]; done) | rfl
abbrev rm5_Q (Z : State) (x : Int64) (y : Int64) (u : Int64) (v1 : Int64) (h0 : Heap) (n0 : Nat) : Option Value → Heap → Prop := fun v h => ∃ b, v = some (.ref b) ∧ h0.size ≤ b ∧ Keep h0 h [] ∧ AF Z h b .long 10 (fun j => .long (own_G x y u v1 j))
set_option maxRecDepth 65536 in
set_option maxHeartbeats 40000000 in
theorem rm5 (l : Launch) (Z : State) (a0 : Array Value) (hw : ∀ d ∈ tables_1, d.before a0 Z = true) (ws : List Jvm.Cond) (x : Int64) (y : Int64) (u : Int64) (v1 : Int64) (h : Heap) (n0 : Nat) (hn0 : n0 ≤ h.size) :
    Ct l Z (⟨"com/example/plain_audit/plainaudit/trail/Field25519AddPinLaw", "makeGarbage", "(JJJJ)[J"⟩ : MethodName) method_4_code 8 (some (.array .long)) ws ({ frames := 0, cells := 1, slots := 10, locals := 0 } : Room) #[(.long x), (.long y), (.long u), (.long v1)] h n0 (rm5_Q Z x y u v1 h n0) := by
  refine Ct.of (plainFor_of_name pn_1) hn0 (fun m => rm5_ef m x y u v1) ?_
  intro p e s m below meth c T0 X0
  replace X0 : Sn Z n0 method_4_code 8 "com/example/plain_audit/plainaudit/trail/Field25519AddPinLaw" "makeGarbage" (some (.array .long)) p l e ({ frames := 0, cells := 1, slots := 10, locals := 0 } : Room) s m #[(.long x), (.long y), (.long u), (.long v1)] below meth c T0 h 0 0 := X0
  have K0 := Keep.refl h []
  refine w_bipush (pc' := 2) (z := (10 : Int32)) X0 d5_0 rfl rfl ?_
  refine w_newarray (pc' := 4) (n := 10) (cap := 10) X0 d5_2 (hw _ (List.mem_of_getElem? (i := 4) rfl)) rfl (by decide) (by decide) (fun T1 h1 b1 X1 E1 q1 g1 F1 => ?_)
  have K2 := K0.ext E1
  have kp1 : h.size ≤ b1 := Nat.le_trans K0.1 (Nat.le_of_eq q1.symm)
  refine w_dup (pc' := 5) X1 d5_4 rfl rfl ?_
  refine w_iconst (pc' := 6) (z := (0 : Int32)) X1 d5_5 rfl rfl ?_
  refine w_lloadN (pc' := 7) X1 d5_6 rfl rfl ?_
  refine w_ldc2 (pc' := 10) (z := (-1 : Int64)) X1 d5_7 (hw _ (List.mem_of_getElem? (i := 22) rfl)) rfl ?_
  refine w_lxor (pc' := 11) X1 d5_10 rfl ?_
  refine w_lastore (pc' := 12) (i := 0) X1 F1 d5_11 rfl (by decide) rfl g1 (fun T3 h3 X3 W3 => ?_)
  have F3 := F1.set W3
  have K3 := K2.wr W3 (Or.inr kp1)
  refine w_dup (pc' := 13) X3 d5_12 rfl rfl ?_
  refine w_iconst (pc' := 14) (z := (1 : Int32)) X3 d5_13 rfl rfl ?_
  refine w_lloadN (pc' := 15) X3 d5_14 rfl rfl ?_
  refine w_ldc2 (pc' := 18) (z := (-1 : Int64)) X3 d5_15 (hw _ (List.mem_of_getElem? (i := 22) rfl)) rfl ?_
  refine w_lxor (pc' := 19) X3 d5_18 rfl ?_
  refine w_lastore (pc' := 20) (i := 1) X3 F3 d5_19 rfl (by decide) rfl g1 (fun T4 h4 X4 W4 => ?_)
  have F4 := F3.set W4
  have K4 := K3.wr W4 (Or.inr kp1)
  refine w_dup (pc' := 21) X4 d5_20 rfl rfl ?_
  refine w_iconst (pc' := 22) (z := (2 : Int32)) X4 d5_21 rfl rfl ?_
  refine w_lload (pc' := 24) X4 d5_22 rfl rfl ?_
  refine w_ldc2 (pc' := 27) (z := (-1 : Int64)) X4 d5_24 (hw _ (List.mem_of_getElem? (i := 22) rfl)) rfl ?_
  refine w_lxor (pc' := 28) X4 d5_27 rfl ?_
  refine w_lastore (pc' := 29) (i := 2) X4 F4 d5_28 rfl (by decide) rfl g1 (fun T5 h5 X5 W5 => ?_)
  have F5 := F4.set W5
  have K5 := K4.wr W5 (Or.inr kp1)
  refine w_dup (pc' := 30) X5 d5_29 rfl rfl ?_
  refine w_iconst (pc' := 31) (z := (3 : Int32)) X5 d5_30 rfl rfl ?_
  refine w_lload (pc' := 33) X5 d5_31 rfl rfl ?_
  refine w_ldc2 (pc' := 36) (z := (-1 : Int64)) X5 d5_33 (hw _ (List.mem_of_getElem? (i := 22) rfl)) rfl ?_
  refine w_lxor (pc' := 37) X5 d5_36 rfl ?_
  refine w_lastore (pc' := 38) (i := 3) X5 F5 d5_37 rfl (by decide) rfl g1 (fun T6 h6 X6 W6 => ?_)
  have F6 := F5.set W6
  have K6 := K5.wr W6 (Or.inr kp1)
  refine w_dup (pc' := 39) X6 d5_38 rfl rfl ?_
  refine w_iconst (pc' := 40) (z := (4 : Int32)) X6 d5_39 rfl rfl ?_
  refine w_lloadN (pc' := 41) X6 d5_40 rfl rfl ?_
  refine w_lload (pc' := 43) X6 d5_41 rfl rfl ?_
  refine w_ladd (pc' := 44) X6 d5_43 rfl ?_
  refine w_lastore (pc' := 45) (i := 4) X6 F6 d5_44 rfl (by decide) rfl g1 (fun T7 h7 X7 W7 => ?_)
  have F7 := F6.set W7
  have K7 := K6.wr W7 (Or.inr kp1)
  refine w_dup (pc' := 46) X7 d5_45 rfl rfl ?_
  refine w_iconst (pc' := 47) (z := (5 : Int32)) X7 d5_46 rfl rfl ?_
  refine w_lloadN (pc' := 48) X7 d5_47 rfl rfl ?_
  refine w_lload (pc' := 50) X7 d5_48 rfl rfl ?_
  refine w_ladd (pc' := 51) X7 d5_50 rfl ?_
  refine w_lastore (pc' := 52) (i := 5) X7 F7 d5_51 rfl (by decide) rfl g1 (fun T8 h8 X8 W8 => ?_)
  have F8 := F7.set W8
  have K8 := K7.wr W8 (Or.inr kp1)
  refine w_dup (pc' := 53) X8 d5_52 rfl rfl ?_
  refine w_bipush (pc' := 55) (z := (6 : Int32)) X8 d5_53 rfl rfl ?_
  refine w_lloadN (pc' := 56) X8 d5_55 rfl rfl ?_
  refine w_lload (pc' := 58) X8 d5_56 rfl rfl ?_
  refine w_lsub (pc' := 59) X8 d5_58 rfl ?_
  refine w_lastore (pc' := 60) (i := 6) X8 F8 d5_59 rfl (by decide) rfl g1 (fun T9 h9 X9 W9 => ?_)
  have F9 := F8.set W9
  have K9 := K8.wr W9 (Or.inr kp1)
  refine w_dup (pc' := 61) X9 d5_60 rfl rfl ?_
  refine w_bipush (pc' := 63) (z := (7 : Int32)) X9 d5_61 rfl rfl ?_
  refine w_lloadN (pc' := 64) X9 d5_63 rfl rfl ?_
  refine w_lload (pc' := 66) X9 d5_64 rfl rfl ?_
  refine w_lsub (pc' := 67) X9 d5_66 rfl ?_
  refine w_lastore (pc' := 68) (i := 7) X9 F9 d5_67 rfl (by decide) rfl g1 (fun T10 h10 X10 W10 => ?_)
  have F10 := F9.set W10
  have K10 := K9.wr W10 (Or.inr kp1)
  refine w_dup (pc' := 69) X10 d5_68 rfl rfl ?_
  refine w_bipush (pc' := 71) (z := (8 : Int32)) X10 d5_69 rfl rfl ?_
  refine w_lloadN (pc' := 72) X10 d5_71 rfl rfl ?_
  refine w_ldc2 (pc' := 75) (z := (9 : Int64)) X10 d5_72 (hw _ (List.mem_of_getElem? (i := 23) rfl)) rfl ?_
  refine w_lmul (pc' := 76) X10 d5_75 rfl ?_
  refine w_lastore (pc' := 77) (i := 8) X10 F10 d5_76 rfl (by decide) rfl g1 (fun T11 h11 X11 W11 => ?_)
  have F11 := F10.set W11
  have K11 := K10.wr W11 (Or.inr kp1)
  refine w_dup (pc' := 78) X11 d5_77 rfl rfl ?_
  refine w_bipush (pc' := 80) (z := (9 : Int32)) X11 d5_78 rfl rfl ?_
  refine w_lload (pc' := 82) X11 d5_80 rfl rfl ?_
  refine w_ldc2 (pc' := 85) (z := (11 : Int64)) X11 d5_82 (hw _ (List.mem_of_getElem? (i := 24) rfl)) rfl ?_
  refine w_lmul (pc' := 86) X11 d5_85 rfl ?_
  refine w_lastore (pc' := 87) (i := 9) X11 F11 d5_86 rfl (by decide) rfl g1 (fun T12 h12 X12 W12 => ?_)
  have F12 := F11.set W12
  have K12 := K11.wr W12 (Or.inr kp1)
  have Fz : AF Z h12 b1 .long 10 (fun j => .long (own_G x y u v1 j)) := F12.congr (by
    intro j hj
    match j, hj with
    | 0, _ => rfl
    | 1, _ => rfl
    | 2, _ => rfl
    | 3, _ => rfl
    | 4, _ => rfl
    | 5, _ => rfl
    | 6, _ => rfl
    | 7, _ => rfl
    | 8, _ => rfl
    | 9, _ => rfl
    | _ + 10, hj => exact absurd hj (by omega))
  exact w_areturn (t := (.array .long)) X12 d5_87 rfl rfl rfl rfl (⟨b1, rfl, kp1, K12, Fz⟩)
theorem d4_0 : decode method_5_code 0 = .ok (.aload_n 0, 1) := by decide +kernel
theorem d4_1 : decode method_5_code 1 = .ok (.iconst 0, 1) := by decide +kernel
theorem d4_2 : decode method_5_code 2 = .ok (.laload, 1) := by decide +kernel
theorem d4_3 : decode method_5_code 3 = .ok (.aload_n 1, 1) := by decide +kernel
theorem d4_4 : decode method_5_code 4 = .ok (.iconst 0, 1) := by decide +kernel
theorem d4_5 : decode method_5_code 5 = .ok (.laload, 1) := by decide +kernel
theorem d4_6 : decode method_5_code 6 = .ok (.lcmp, 1) := by decide +kernel
theorem d4_7 : decode method_5_code 7 = .ok (.ifCond .ne 105, 3) := by decide +kernel
theorem d4_10 : decode method_5_code 10 = .ok (.aload_n 0, 1) := by decide +kernel
theorem d4_11 : decode method_5_code 11 = .ok (.iconst 1, 1) := by decide +kernel
theorem d4_12 : decode method_5_code 12 = .ok (.laload, 1) := by decide +kernel
theorem d4_13 : decode method_5_code 13 = .ok (.aload_n 1, 1) := by decide +kernel
theorem d4_14 : decode method_5_code 14 = .ok (.iconst 1, 1) := by decide +kernel
theorem d4_15 : decode method_5_code 15 = .ok (.laload, 1) := by decide +kernel
theorem d4_16 : decode method_5_code 16 = .ok (.lcmp, 1) := by decide +kernel
theorem d4_17 : decode method_5_code 17 = .ok (.ifCond .ne 95, 3) := by decide +kernel
theorem d4_20 : decode method_5_code 20 = .ok (.aload_n 0, 1) := by decide +kernel
theorem d4_21 : decode method_5_code 21 = .ok (.iconst 2, 1) := by decide +kernel
theorem d4_22 : decode method_5_code 22 = .ok (.laload, 1) := by decide +kernel
theorem d4_23 : decode method_5_code 23 = .ok (.aload_n 1, 1) := by decide +kernel
theorem d4_24 : decode method_5_code 24 = .ok (.iconst 2, 1) := by decide +kernel
theorem d4_25 : decode method_5_code 25 = .ok (.laload, 1) := by decide +kernel
theorem d4_26 : decode method_5_code 26 = .ok (.lcmp, 1) := by decide +kernel
theorem d4_27 : decode method_5_code 27 = .ok (.ifCond .ne 85, 3) := by decide +kernel
theorem d4_30 : decode method_5_code 30 = .ok (.aload_n 0, 1) := by decide +kernel
theorem d4_31 : decode method_5_code 31 = .ok (.iconst 3, 1) := by decide +kernel
theorem d4_32 : decode method_5_code 32 = .ok (.laload, 1) := by decide +kernel
theorem d4_33 : decode method_5_code 33 = .ok (.aload_n 1, 1) := by decide +kernel
theorem d4_34 : decode method_5_code 34 = .ok (.iconst 3, 1) := by decide +kernel
theorem d4_35 : decode method_5_code 35 = .ok (.laload, 1) := by decide +kernel
theorem d4_36 : decode method_5_code 36 = .ok (.lcmp, 1) := by decide +kernel
theorem d4_37 : decode method_5_code 37 = .ok (.ifCond .ne 75, 3) := by decide +kernel
theorem d4_40 : decode method_5_code 40 = .ok (.aload_n 0, 1) := by decide +kernel
theorem d4_41 : decode method_5_code 41 = .ok (.iconst 4, 1) := by decide +kernel
theorem d4_42 : decode method_5_code 42 = .ok (.laload, 1) := by decide +kernel
theorem d4_43 : decode method_5_code 43 = .ok (.aload_n 1, 1) := by decide +kernel
theorem d4_44 : decode method_5_code 44 = .ok (.iconst 4, 1) := by decide +kernel
theorem d4_45 : decode method_5_code 45 = .ok (.laload, 1) := by decide +kernel
theorem d4_46 : decode method_5_code 46 = .ok (.lcmp, 1) := by decide +kernel
theorem d4_47 : decode method_5_code 47 = .ok (.ifCond .ne 65, 3) := by decide +kernel
theorem d4_50 : decode method_5_code 50 = .ok (.aload_n 0, 1) := by decide +kernel
theorem d4_51 : decode method_5_code 51 = .ok (.iconst 5, 1) := by decide +kernel
theorem d4_52 : decode method_5_code 52 = .ok (.laload, 1) := by decide +kernel
theorem d4_53 : decode method_5_code 53 = .ok (.aload_n 1, 1) := by decide +kernel
theorem d4_54 : decode method_5_code 54 = .ok (.iconst 5, 1) := by decide +kernel
theorem d4_55 : decode method_5_code 55 = .ok (.laload, 1) := by decide +kernel
theorem d4_56 : decode method_5_code 56 = .ok (.lcmp, 1) := by decide +kernel
theorem d4_57 : decode method_5_code 57 = .ok (.ifCond .ne 55, 3) := by decide +kernel
theorem d4_60 : decode method_5_code 60 = .ok (.aload_n 0, 1) := by decide +kernel
theorem d4_61 : decode method_5_code 61 = .ok (.bipush 6, 2) := by decide +kernel
theorem d4_63 : decode method_5_code 63 = .ok (.laload, 1) := by decide +kernel
theorem d4_64 : decode method_5_code 64 = .ok (.aload_n 1, 1) := by decide +kernel
theorem d4_65 : decode method_5_code 65 = .ok (.bipush 6, 2) := by decide +kernel
theorem d4_67 : decode method_5_code 67 = .ok (.laload, 1) := by decide +kernel
theorem d4_68 : decode method_5_code 68 = .ok (.lcmp, 1) := by decide +kernel
theorem d4_69 : decode method_5_code 69 = .ok (.ifCond .ne 43, 3) := by decide +kernel
theorem d4_72 : decode method_5_code 72 = .ok (.aload_n 0, 1) := by decide +kernel
theorem d4_73 : decode method_5_code 73 = .ok (.bipush 7, 2) := by decide +kernel
theorem d4_75 : decode method_5_code 75 = .ok (.laload, 1) := by decide +kernel
theorem d4_76 : decode method_5_code 76 = .ok (.aload_n 1, 1) := by decide +kernel
theorem d4_77 : decode method_5_code 77 = .ok (.bipush 7, 2) := by decide +kernel
theorem d4_79 : decode method_5_code 79 = .ok (.laload, 1) := by decide +kernel
theorem d4_80 : decode method_5_code 80 = .ok (.lcmp, 1) := by decide +kernel
theorem d4_81 : decode method_5_code 81 = .ok (.ifCond .ne 31, 3) := by decide +kernel
theorem d4_84 : decode method_5_code 84 = .ok (.aload_n 0, 1) := by decide +kernel
theorem d4_85 : decode method_5_code 85 = .ok (.bipush 8, 2) := by decide +kernel
theorem d4_87 : decode method_5_code 87 = .ok (.laload, 1) := by decide +kernel
theorem d4_88 : decode method_5_code 88 = .ok (.aload_n 1, 1) := by decide +kernel
theorem d4_89 : decode method_5_code 89 = .ok (.bipush 8, 2) := by decide +kernel
theorem d4_91 : decode method_5_code 91 = .ok (.laload, 1) := by decide +kernel
theorem d4_92 : decode method_5_code 92 = .ok (.lcmp, 1) := by decide +kernel
theorem d4_93 : decode method_5_code 93 = .ok (.ifCond .ne 19, 3) := by decide +kernel
theorem d4_96 : decode method_5_code 96 = .ok (.aload_n 0, 1) := by decide +kernel
theorem d4_97 : decode method_5_code 97 = .ok (.bipush 9, 2) := by decide +kernel
theorem d4_99 : decode method_5_code 99 = .ok (.laload, 1) := by decide +kernel
theorem d4_100 : decode method_5_code 100 = .ok (.aload_n 1, 1) := by decide +kernel
theorem d4_101 : decode method_5_code 101 = .ok (.bipush 9, 2) := by decide +kernel
theorem d4_103 : decode method_5_code 103 = .ok (.laload, 1) := by decide +kernel
theorem d4_104 : decode method_5_code 104 = .ok (.lcmp, 1) := by decide +kernel
theorem d4_105 : decode method_5_code 105 = .ok (.ifCond .ne 7, 3) := by decide +kernel
theorem d4_108 : decode method_5_code 108 = .ok (.iconst 1, 1) := by decide +kernel
theorem d4_109 : decode method_5_code 109 = .ok (.goto 4, 3) := by decide +kernel
theorem d4_113 : decode method_5_code 113 = .ok (.ireturn, 1) := by decide +kernel
theorem rm4_ef (m : MethodId) (ap : Addr) (aq : Addr) : entryFrame m #[(.ref ap), (.ref aq)] 2 = mkF m 0 #[.val (.ref ap), .val (.ref aq)] [] := by first | (simp [entryFrame, mkF, argsToLocals, Value.category]; done) | rfl
abbrev rm4_Q (Z : State) (ap : Addr) (aq : Addr) (f : Nat → Int64) (h0 : Heap) (n0 : Nat) : Option Value → Heap → Prop := fun v h => v = some (.int 1) ∧ h0 = h
set_option maxRecDepth 65536 in
set_option maxHeartbeats 40000000 in
theorem rm4 (l : Launch) (Z : State) (a0 : Array Value) (hw : ∀ d ∈ tables_1, d.before a0 Z = true) (ws : List Jvm.Cond) (ap : Addr) (aq : Addr) (f : Nat → Int64) (h : Heap) (n0 : Nat) (hn0 : n0 ≤ h.size) (A1 : AF Z h ap .long 10 (fun j => .long (f j))) (A2 : AF Z h aq .long 10 (fun j => .long (f j))) :
    Ct l Z (⟨"com/example/plain_audit/plainaudit/trail/Field25519AddPinLaw", "same", "([J[J)Z"⟩ : MethodName) method_5_code 2 (some .boolean) ws ({ frames := 0, cells := 0, slots := 0, locals := 0 } : Room) #[(.ref ap), (.ref aq)] h n0 (rm4_Q Z ap aq f h n0) := by
  refine Ct.of (plainFor_of_name pn_1) hn0 (fun m => rm4_ef m ap aq) ?_
  intro p e s m below meth c T0 X0
  replace X0 : Sn Z n0 method_5_code 2 "com/example/plain_audit/plainaudit/trail/Field25519AddPinLaw" "same" (some .boolean) p l e ({ frames := 0, cells := 0, slots := 0, locals := 0 } : Room) s m #[(.ref ap), (.ref aq)] below meth c T0 h 0 0 := X0
  refine w_aloadN (pc' := 1) X0 d4_0 rfl rfl rfl ?_
  refine w_iconst (pc' := 2) (z := (0 : Int32)) X0 d4_1 rfl rfl ?_
  refine w_laload (pc' := 3) (i := 0) (v := (.long (f 0))) X0 A1 d4_2 rfl (by decide) rfl rfl ?_
  refine w_aloadN (pc' := 4) X0 d4_3 rfl rfl rfl ?_
  refine w_iconst (pc' := 5) (z := (0 : Int32)) X0 d4_4 rfl rfl ?_
  refine w_laload (pc' := 6) (i := 0) (v := (.long (f 0))) X0 A2 d4_5 rfl (by decide) rfl rfl ?_
  refine w_lcif_ne (pc' := 7) (pc1 := 112) (pc2 := 10) X0 d4_6 d4_7 (by decide) (fun (hc7 : (f 0) ≠ (f 0)) => absurd rfl hc7) (fun (hc7 : (f 0) = (f 0)) => ?_)
  refine w_aloadN (pc' := 11) X0 d4_10 rfl rfl rfl ?_
  refine w_iconst (pc' := 12) (z := (1 : Int32)) X0 d4_11 rfl rfl ?_
  refine w_laload (pc' := 13) (i := 1) (v := (.long (f 1))) X0 A1 d4_12 rfl (by decide) rfl rfl ?_
  refine w_aloadN (pc' := 14) X0 d4_13 rfl rfl rfl ?_
  refine w_iconst (pc' := 15) (z := (1 : Int32)) X0 d4_14 rfl rfl ?_
  refine w_laload (pc' := 16) (i := 1) (v := (.long (f 1))) X0 A2 d4_15 rfl (by decide) rfl rfl ?_
  refine w_lcif_ne (pc' := 17) (pc1 := 112) (pc2 := 20) X0 d4_16 d4_17 (by decide) (fun (hc17 : (f 1) ≠ (f 1)) => absurd rfl hc17) (fun (hc17 : (f 1) = (f 1)) => ?_)
  refine w_aloadN (pc' := 21) X0 d4_20 rfl rfl rfl ?_
  refine w_iconst (pc' := 22) (z := (2 : Int32)) X0 d4_21 rfl rfl ?_
  refine w_laload (pc' := 23) (i := 2) (v := (.long (f 2))) X0 A1 d4_22 rfl (by decide) rfl rfl ?_
  refine w_aloadN (pc' := 24) X0 d4_23 rfl rfl rfl ?_
  refine w_iconst (pc' := 25) (z := (2 : Int32)) X0 d4_24 rfl rfl ?_
  refine w_laload (pc' := 26) (i := 2) (v := (.long (f 2))) X0 A2 d4_25 rfl (by decide) rfl rfl ?_
  refine w_lcif_ne (pc' := 27) (pc1 := 112) (pc2 := 30) X0 d4_26 d4_27 (by decide) (fun (hc27 : (f 2) ≠ (f 2)) => absurd rfl hc27) (fun (hc27 : (f 2) = (f 2)) => ?_)
  refine w_aloadN (pc' := 31) X0 d4_30 rfl rfl rfl ?_
  refine w_iconst (pc' := 32) (z := (3 : Int32)) X0 d4_31 rfl rfl ?_
  refine w_laload (pc' := 33) (i := 3) (v := (.long (f 3))) X0 A1 d4_32 rfl (by decide) rfl rfl ?_
  refine w_aloadN (pc' := 34) X0 d4_33 rfl rfl rfl ?_
  refine w_iconst (pc' := 35) (z := (3 : Int32)) X0 d4_34 rfl rfl ?_
  refine w_laload (pc' := 36) (i := 3) (v := (.long (f 3))) X0 A2 d4_35 rfl (by decide) rfl rfl ?_
  refine w_lcif_ne (pc' := 37) (pc1 := 112) (pc2 := 40) X0 d4_36 d4_37 (by decide) (fun (hc37 : (f 3) ≠ (f 3)) => absurd rfl hc37) (fun (hc37 : (f 3) = (f 3)) => ?_)
  refine w_aloadN (pc' := 41) X0 d4_40 rfl rfl rfl ?_
  refine w_iconst (pc' := 42) (z := (4 : Int32)) X0 d4_41 rfl rfl ?_
  refine w_laload (pc' := 43) (i := 4) (v := (.long (f 4))) X0 A1 d4_42 rfl (by decide) rfl rfl ?_
  refine w_aloadN (pc' := 44) X0 d4_43 rfl rfl rfl ?_
  refine w_iconst (pc' := 45) (z := (4 : Int32)) X0 d4_44 rfl rfl ?_
  refine w_laload (pc' := 46) (i := 4) (v := (.long (f 4))) X0 A2 d4_45 rfl (by decide) rfl rfl ?_
  refine w_lcif_ne (pc' := 47) (pc1 := 112) (pc2 := 50) X0 d4_46 d4_47 (by decide) (fun (hc47 : (f 4) ≠ (f 4)) => absurd rfl hc47) (fun (hc47 : (f 4) = (f 4)) => ?_)
  refine w_aloadN (pc' := 51) X0 d4_50 rfl rfl rfl ?_
  refine w_iconst (pc' := 52) (z := (5 : Int32)) X0 d4_51 rfl rfl ?_
  refine w_laload (pc' := 53) (i := 5) (v := (.long (f 5))) X0 A1 d4_52 rfl (by decide) rfl rfl ?_
  refine w_aloadN (pc' := 54) X0 d4_53 rfl rfl rfl ?_
  refine w_iconst (pc' := 55) (z := (5 : Int32)) X0 d4_54 rfl rfl ?_
  refine w_laload (pc' := 56) (i := 5) (v := (.long (f 5))) X0 A2 d4_55 rfl (by decide) rfl rfl ?_
  refine w_lcif_ne (pc' := 57) (pc1 := 112) (pc2 := 60) X0 d4_56 d4_57 (by decide) (fun (hc57 : (f 5) ≠ (f 5)) => absurd rfl hc57) (fun (hc57 : (f 5) = (f 5)) => ?_)
  refine w_aloadN (pc' := 61) X0 d4_60 rfl rfl rfl ?_
  refine w_bipush (pc' := 63) (z := (6 : Int32)) X0 d4_61 rfl rfl ?_
  refine w_laload (pc' := 64) (i := 6) (v := (.long (f 6))) X0 A1 d4_63 rfl (by decide) rfl rfl ?_
  refine w_aloadN (pc' := 65) X0 d4_64 rfl rfl rfl ?_
  refine w_bipush (pc' := 67) (z := (6 : Int32)) X0 d4_65 rfl rfl ?_
  refine w_laload (pc' := 68) (i := 6) (v := (.long (f 6))) X0 A2 d4_67 rfl (by decide) rfl rfl ?_
  refine w_lcif_ne (pc' := 69) (pc1 := 112) (pc2 := 72) X0 d4_68 d4_69 (by decide) (fun (hc69 : (f 6) ≠ (f 6)) => absurd rfl hc69) (fun (hc69 : (f 6) = (f 6)) => ?_)
  refine w_aloadN (pc' := 73) X0 d4_72 rfl rfl rfl ?_
  refine w_bipush (pc' := 75) (z := (7 : Int32)) X0 d4_73 rfl rfl ?_
  refine w_laload (pc' := 76) (i := 7) (v := (.long (f 7))) X0 A1 d4_75 rfl (by decide) rfl rfl ?_
  refine w_aloadN (pc' := 77) X0 d4_76 rfl rfl rfl ?_
  refine w_bipush (pc' := 79) (z := (7 : Int32)) X0 d4_77 rfl rfl ?_
  refine w_laload (pc' := 80) (i := 7) (v := (.long (f 7))) X0 A2 d4_79 rfl (by decide) rfl rfl ?_
  refine w_lcif_ne (pc' := 81) (pc1 := 112) (pc2 := 84) X0 d4_80 d4_81 (by decide) (fun (hc81 : (f 7) ≠ (f 7)) => absurd rfl hc81) (fun (hc81 : (f 7) = (f 7)) => ?_)
  refine w_aloadN (pc' := 85) X0 d4_84 rfl rfl rfl ?_
  refine w_bipush (pc' := 87) (z := (8 : Int32)) X0 d4_85 rfl rfl ?_
  refine w_laload (pc' := 88) (i := 8) (v := (.long (f 8))) X0 A1 d4_87 rfl (by decide) rfl rfl ?_
  refine w_aloadN (pc' := 89) X0 d4_88 rfl rfl rfl ?_
  refine w_bipush (pc' := 91) (z := (8 : Int32)) X0 d4_89 rfl rfl ?_
  refine w_laload (pc' := 92) (i := 8) (v := (.long (f 8))) X0 A2 d4_91 rfl (by decide) rfl rfl ?_
  refine w_lcif_ne (pc' := 93) (pc1 := 112) (pc2 := 96) X0 d4_92 d4_93 (by decide) (fun (hc93 : (f 8) ≠ (f 8)) => absurd rfl hc93) (fun (hc93 : (f 8) = (f 8)) => ?_)
  refine w_aloadN (pc' := 97) X0 d4_96 rfl rfl rfl ?_
  refine w_bipush (pc' := 99) (z := (9 : Int32)) X0 d4_97 rfl rfl ?_
  refine w_laload (pc' := 100) (i := 9) (v := (.long (f 9))) X0 A1 d4_99 rfl (by decide) rfl rfl ?_
  refine w_aloadN (pc' := 101) X0 d4_100 rfl rfl rfl ?_
  refine w_bipush (pc' := 103) (z := (9 : Int32)) X0 d4_101 rfl rfl ?_
  refine w_laload (pc' := 104) (i := 9) (v := (.long (f 9))) X0 A2 d4_103 rfl (by decide) rfl rfl ?_
  refine w_lcif_ne (pc' := 105) (pc1 := 112) (pc2 := 108) X0 d4_104 d4_105 (by decide) (fun (hc105 : (f 9) ≠ (f 9)) => absurd rfl hc105) (fun (hc105 : (f 9) = (f 9)) => ?_)
  refine w_iconst (pc' := 109) (z := (1 : Int32)) X0 d4_108 rfl rfl ?_
  refine w_goto (pc' := 113) X0 d4_109 (by decide) ?_
  exact w_nreturn (t := .boolean) X0 d4_113 rfl (by simp) (⟨rfl, rfl⟩)
theorem d3_0 : decode prog_37_method_9_code 0 = .ok (.iconst 0, 1) := by decide +kernel
theorem d3_1 : decode prog_37_method_9_code 1 = .ok (.istore_n 3, 1) := by decide +kernel
theorem d3_2 : decode prog_37_method_9_code 2 = .ok (.iload_n 3, 1) := by decide +kernel
theorem d3_3 : decode prog_37_method_9_code 3 = .ok (.bipush 10, 2) := by decide +kernel
theorem d3_5 : decode prog_37_method_9_code 5 = .ok (.if_icmp .ge 19, 3) := by decide +kernel
theorem d3_8 : decode prog_37_method_9_code 8 = .ok (.aload_n 0, 1) := by decide +kernel
theorem d3_9 : decode prog_37_method_9_code 9 = .ok (.iload_n 3, 1) := by decide +kernel
theorem d3_10 : decode prog_37_method_9_code 10 = .ok (.aload_n 1, 1) := by decide +kernel
theorem d3_11 : decode prog_37_method_9_code 11 = .ok (.iload_n 3, 1) := by decide +kernel
theorem d3_12 : decode prog_37_method_9_code 12 = .ok (.laload, 1) := by decide +kernel
theorem d3_13 : decode prog_37_method_9_code 13 = .ok (.aload_n 2, 1) := by decide +kernel
theorem d3_14 : decode prog_37_method_9_code 14 = .ok (.iload_n 3, 1) := by decide +kernel
theorem d3_15 : decode prog_37_method_9_code 15 = .ok (.laload, 1) := by decide +kernel
theorem d3_16 : decode prog_37_method_9_code 16 = .ok (.ladd, 1) := by decide +kernel
theorem d3_17 : decode prog_37_method_9_code 17 = .ok (.lastore, 1) := by decide +kernel
theorem d3_18 : decode prog_37_method_9_code 18 = .ok (.iinc 3 1, 3) := by decide +kernel
theorem d3_21 : decode prog_37_method_9_code 21 = .ok (.goto (-19), 3) := by decide +kernel
theorem d3_24 : decode prog_37_method_9_code 24 = .ok (.return_, 1) := by decide +kernel
theorem pn_3 : plainName "com/example/plain_audit/plainaudit/trail/Field25519" = true := by first | (simp [plainName, overriddenIn]; done) | decide +kernel
theorem rm3_ef (m : MethodId) (sm : Addr) (aa : Addr) (ab : Addr) : entryFrame m #[(.ref sm), (.ref aa), (.ref ab)] 4 = mkF m 0 #[.val (.ref sm), .val (.ref aa), .val (.ref ab), .unset] [] := by first | (simp [entryFrame, mkF, argsToLocals, Value.category]; done) | rfl
abbrev rm3_Q (Z : State) (sm : Addr) (aa : Addr) (ab : Addr) (sv fa fb : Nat → Int64) (h0 : Heap) (n0 : Nat) : Option Value → Heap → Prop := fun v h => v = none ∧ Keep h0 h [sm] ∧ AF Z h sm .long 10 (fun j => .long (fa j + fb j))
set_option maxRecDepth 65536 in
set_option maxHeartbeats 40000000 in
theorem rm3 (l : Launch) (Z : State) (a0 : Array Value) (hw : ∀ d ∈ tables_1, d.before a0 Z = true) (ws : List Jvm.Cond) (sm : Addr) (aa : Addr) (ab : Addr) (sv fa fb : Nat → Int64) (h : Heap) (n0 : Nat) (hn0 : n0 ≤ h.size) (A0 : AF Z h sm .long 10 (fun j => .long (sv j))) (A1 : AF Z h aa .long 10 (fun j => .long (fa j))) (A2 : AF Z h ab .long 10 (fun j => .long (fb j))) (g0 : n0 ≤ sm) :
    Ct l Z (⟨"com/example/plain_audit/plainaudit/trail/Field25519", "add", "([J[J[J)V"⟩ : MethodName) prog_37_method_9_code 4 none ws ({ frames := 0, cells := 0, slots := 0, locals := 0 } : Room) #[(.ref sm), (.ref aa), (.ref ab)] h n0 (rm3_Q Z sm aa ab sv fa fb h n0) := by
  refine Ct.of (plainFor_of_name pn_3) hn0 (fun m => rm3_ef m sm aa ab) ?_
  intro p e s m below meth c T0 X0
  replace X0 : Sn Z n0 prog_37_method_9_code 4 "com/example/plain_audit/plainaudit/trail/Field25519" "add" none p l e ({ frames := 0, cells := 0, slots := 0, locals := 0 } : Room) s m #[(.ref sm), (.ref aa), (.ref ab)] below meth c T0 h 0 0 := X0
  have L2 : ∀ (k i : Nat) (T : State) (hh : Heap) (ga gb : Nat → Value), i + k = 10 → Sn Z n0 prog_37_method_9_code 4 "com/example/plain_audit/plainaudit/trail/Field25519" "add" none p l e ({ frames := 0, cells := 0, slots := 0, locals := 0 } : Room) s m #[(.ref sm), (.ref aa), (.ref ab)] below meth c T hh 0 0 → Keep h hh [sm] → AF Z hh sm .long 10 (fun j => .long (if j < i then fa j + fb j else sv j)) → AF Z hh aa .long 10 ga → AF Z hh ab .long 10 gb → (∀ j, i ≤ j → j < 10 → ga j = .long (fa j)) → (∀ j, i ≤ j → j < 10 → gb j = .long (fb j)) → W p e below s ({ frames := 0, cells := 0, slots := 0, locals := 0 } : Room) n0 (rm3_Q Z sm aa ab sv fa fb h n0) (T.setTop (mkF m 2 #[.val (.ref sm), .val (.ref aa), .val (.ref ab), .val (.int (Int32.ofNat i))] [])) := by
    intro k
    induction k with
    | zero =>
      intro i T hh ga gb hi X Kh Fs Fa Fb ha hb
      have ei : (Int32.ofNat i).toInt = i := own_i (by omega)
      refine w_iloadN (pc' := 3) X d3_2 rfl rfl ?_
      refine w_bipush (pc' := 5) (z := (10 : Int32)) X d3_3 rfl rfl ?_
      refine w_icmp_ge (pc1 := 24) (pc2 := 8) X d3_5 (by decide) (fun (hc5 : (Int32.ofNat i).toInt ≥ (10 : Int)) => ?_) (fun (hc5 : (Int32.ofNat i).toInt < (10 : Int)) => by omega)
      exact w_return X d3_24 rfl (⟨rfl, Kh, Fs.congr fun j hj => by rw [if_pos (by omega)]⟩)
    | succ k ih =>
      intro i T hh ga gb hi X Kh Fs Fa Fb ha hb
      have ei : (Int32.ofNat i).toInt = i := own_i (by omega)
      refine w_iloadN (pc' := 3) X d3_2 rfl rfl ?_
      refine w_bipush (pc' := 5) (z := (10 : Int32)) X d3_3 rfl rfl ?_
      refine w_icmp_ge (pc1 := 24) (pc2 := 8) X d3_5 (by decide) (fun (hc5 : (Int32.ofNat i).toInt ≥ (10 : Int)) => by omega) (fun (hc5 : (Int32.ofNat i).toInt < (10 : Int)) => ?_)
      refine w_aloadN (pc' := 9) X d3_8 rfl rfl rfl ?_
      refine w_iloadN (pc' := 10) X d3_9 rfl rfl ?_
      refine w_aloadN (pc' := 11) X d3_10 rfl rfl rfl ?_
      refine w_iloadN (pc' := 12) X d3_11 rfl rfl ?_
      refine w_laload (pc' := 13) (i := i) (v := (.long (fa i))) X Fa d3_12 ei (by omega) (ha i (Nat.le_refl _) (by omega)) rfl ?_
      refine w_aloadN (pc' := 14) X d3_13 rfl rfl rfl ?_
      refine w_iloadN (pc' := 15) X d3_14 rfl rfl ?_
      refine w_laload (pc' := 16) (i := i) (v := (.long (fb i))) X Fb d3_15 ei (by omega) (hb i (Nat.le_refl _) (by omega)) rfl ?_
      refine w_ladd (pc' := 17) X d3_16 rfl ?_
      refine w_lastore (pc' := 18) (i := i) X Fs d3_17 ei (by omega) rfl g0 (fun Tn hn Xn Wn => ?_)
      obtain ⟨ga', Fa', ea⟩ := own_any Fa Wn
      obtain ⟨gb', Fb', eb⟩ := own_any Fb Wn
      have Fs' := (Fs.set Wn).congr fun j _ => own_st j
      have Kn := Kh.wr Wn (Or.inl (List.mem_of_getElem? (i := 0) rfl))
      refine w_iinc (pc' := 21) (z := (Int32.ofNat (i + 1))) (L' := #[.val (.ref sm), .val (.ref aa), .val (.ref ab), .val (.int (Int32.ofNat (i + 1)))]) Xn d3_18 rfl (own_succ i) rfl rfl ?_
      refine w_goto (pc' := 2) Xn d3_21 (by decide) ?_
      exact ih (i + 1) _ _ _ _ (by omega) Xn Kn Fs' Fa' Fb' (fun j h1 h2 => (ea j (by omega)).trans (ha j (by omega) h2)) (fun j h1 h2 => (eb j (by omega)).trans (hb j (by omega) h2))
  refine w_iconst (pc' := 1) (z := (0 : Int32)) X0 d3_0 rfl rfl ?_
  refine w_istoreN (pc' := 2) (L' := #[.val (.ref sm), .val (.ref aa), .val (.ref ab), .val (.int (0 : Int32))]) X0 d3_1 rfl rfl ?_
  exact L2 10 0 _ _ _ _ (by omega) X0 (Keep.refl h [sm]) (A0.congr fun j _ => by rw [if_neg (Nat.not_lt_zero j)]) A1 A2 (fun _ _ _ => rfl) (fun _ _ _ => rfl)
theorem pd_282 : parseMethodDescriptor "(JJJJ)[J" = some ⟨[.long, .long, .long, .long], some (.array .long)⟩ := by decide +kernel
theorem pd_283 : parseMethodDescriptor "([J[J[J)V" = some ⟨[(.array .long), (.array .long), (.array .long)], none⟩ := by decide +kernel
theorem pd_284 : parseMethodDescriptor "([J[J)Z" = some ⟨[(.array .long), (.array .long)], some .boolean⟩ := by decide +kernel
theorem rm0_ef (m : MethodId) (x0 : Int64) (x1 : Int64) (x2 : Int64) (x3 : Int64) (mode : Int32) : entryFrame m #[(.long x0), (.long x1), (.long x2), (.long x3), (.int mode)] 17 = mkF m 0 #[.val (.long x0), .second, .val (.long x1), .second, .val (.long x2), .second, .val (.long x3), .second, .val (.int mode), .unset, .unset, .unset, .unset, .unset, .unset, .unset, .unset] [] := by first | (simp [entryFrame, mkF, argsToLocals, Value.category]; done) | rfl
abbrev rm0_Q (Z : State) (x0 : Int64) (x1 : Int64) (x2 : Int64) (x3 : Int64) (mode : Int32) (h0 : Heap) (n0 : Nat) : Option Value → Heap → Prop := fun v h => v = some (.int 1)
set_option maxRecDepth 65536 in
set_option maxHeartbeats 40000000 in
theorem rm0 (l : Launch) (Z : State) (a0 : Array Value) (hw : ∀ d ∈ tables_1, d.before a0 Z = true) (ws : List Jvm.Cond) (x0 : Int64) (x1 : Int64) (x2 : Int64) (x3 : Int64) (mode : Int32) (h : Heap) (n0 : Nat) (hn0 : n0 ≤ h.size) :
    Ct l Z x code maxLocals ret ws room_1 #[(.long x0), (.long x1), (.long x2), (.long x3), (.int mode)] h n0 (rm0_Q Z x0 x1 x2 x3 mode h n0) := by
  refine Ct.of (plainFor_of_name pn_1) hn0 (fun m => rm0_ef m x0 x1 x2 x3 mode) ?_
  intro p e s m below meth c T0 X0
  replace X0 : Sn Z n0 code 17 "com/example/plain_audit/plainaudit/trail/Field25519AddPinLaw" "law" (some .boolean) p l e room_1 s m #[(.long x0), (.long x1), (.long x2), (.long x3), (.int mode)] below meth c T0 h 0 0 := X0
  refine w_iload (pc' := 2) X0 at_0 rfl rfl ?_
  refine w_iconst (pc' := 3) (z := (3 : Int32)) X0 at_2 rfl rfl ?_
  refine w_iand (pc' := 4) X0 at_3 rfl ?_
  refine w_istore (pc' := 6) (L' := #[.val (.long x0), .second, .val (.long x1), .second, .val (.long x2), .second, .val (.long x3), .second, .val (.int mode), .val (.int (mode &&& (3 : Int32))), .unset, .unset, .unset, .unset, .unset, .unset, .unset]) X0 at_4 rfl rfl ?_
  refine w_lloadN (pc' := 7) X0 at_6 rfl rfl ?_
  refine w_lloadN (pc' := 8) X0 at_7 rfl rfl ?_
  refine w_lload (pc' := 10) X0 at_8 rfl rfl ?_
  refine w_lload (pc' := 12) X0 at_10 rfl rfl ?_
  refine w_callS (pc' := 15) (wd := 0) (argsL := [(.long x0), (.long x1), (.long x2), (.long x3)]) (rest := []) (Q2 := (rm1_Q Z x0 x1 x2 x3 h n0)) X0 at_12 (hw _ (List.mem_of_getElem? (i := 0) rfl)) (hw _ (List.mem_of_getElem? (i := 1) rfl)) (hw _ (List.mem_of_getElem? (i := 2) rfl)) (hw _ (List.mem_of_getElem? (i := 3) rfl)) (by decide) (rm1 l Z a0 hw [] x0 x1 x2 x3 h n0 X0.size) pd_282 rfl rfl rfl (Nat.le_of_eq rfl) (by decide) (fun v1 T1 h1 X1 q1 => ?_)
  obtain ⟨rb1, rfl, kb1, Kc1, Fb1⟩ := q1
  have gb1 : n0 ≤ rb1 := Nat.le_trans X0.size kb1
  refine w_astore (pc' := 17) (L' := #[.val (.long x0), .second, .val (.long x1), .second, .val (.long x2), .second, .val (.long x3), .second, .val (.int mode), .val (.int (mode &&& (3 : Int32))), .val (.ref rb1), .unset, .unset, .unset, .unset, .unset, .unset]) X1 at_15 rfl rfl rfl ?_
  rcases own_4 mode with hm | hm | hm | hm
  · rw [hm]
    refine w_iload (pc' := 19) X1 at_17 rfl rfl ?_
    refine w_iconst (pc' := 20) (z := (3 : Int32)) X1 at_19 rfl rfl ?_
    refine w_icmp_ne (pc1 := 28) (pc2 := 23) X1 at_20 (by decide) (fun (hc20 : (0 : Int32) ≠ (3 : Int32)) => ?_) (fun (hc20 : (0 : Int32) = (3 : Int32)) => absurd hc20 (by decide))
    refine w_lloadN (pc' := 29) X1 at_28 rfl rfl ?_
    refine w_lloadN (pc' := 30) X1 at_29 rfl rfl ?_
    refine w_lload (pc' := 32) X1 at_30 rfl rfl ?_
    refine w_lload (pc' := 34) X1 at_32 rfl rfl ?_
    refine w_callS (pc' := 37) (wd := 0) (argsL := [(.long x0), (.long x1), (.long x2), (.long x3)]) (rest := []) (Q2 := (rm2_Q Z x0 x1 x2 x3 h1 n0)) X1 at_34 (hw _ (List.mem_of_getElem? (i := 7) rfl)) (hw _ (List.mem_of_getElem? (i := 8) rfl)) (hw _ (List.mem_of_getElem? (i := 2) rfl)) (hw _ (List.mem_of_getElem? (i := 9) rfl)) (by decide) (rm2 l Z a0 hw [] x0 x1 x2 x3 h1 n0 X1.size) pd_282 rfl rfl rfl (Nat.le_of_eq rfl) (by decide) (fun v2 T2 h2 X2 q2 => ?_)
    obtain ⟨rb2, rfl, kb2, Kc2, Fb2⟩ := q2
    have ne3 : rb1 ≠ rb2 := Nat.ne_of_lt (Nat.lt_of_lt_of_le Fb1.lt kb2)
    have F4 := Fb1.keep Kc2 nin0
    have gb2 : n0 ≤ rb2 := Nat.le_trans X1.size kb2
    refine w_astore (pc' := 39) (L' := #[.val (.long x0), .second, .val (.long x1), .second, .val (.long x2), .second, .val (.long x3), .second, .val (.int mode), .val (.int (0 : Int32)), .val (.ref rb1), .val (.ref rb2), .unset, .unset, .unset, .unset, .unset]) X2 at_37 rfl rfl rfl ?_
    refine w_bipush (pc' := 41) (z := (10 : Int32)) X2 at_39 rfl rfl ?_
    refine w_newarray (pc' := 43) (n := 10) (cap := 10) X2 at_41 (hw _ (List.mem_of_getElem? (i := 4) rfl)) rfl (by decide) (by decide) (fun T5 h5 b5 X5 E5 q5 g5 F5 => ?_)
    have ne6 : rb1 ≠ b5 := ne_size q5 F4.lt
    have ne7 : rb2 ≠ b5 := ne_size q5 Fb2.lt
    have F8 := F4.ext E5
    have F9 := Fb2.ext E5
    refine w_dup (pc' := 44) X5 at_43 rfl rfl ?_
    refine w_iconst (pc' := 45) (z := (0 : Int32)) X5 at_44 rfl rfl ?_
    refine w_aload (pc' := 47) X5 at_45 rfl rfl rfl ?_
    refine w_iconst (pc' := 48) (z := (0 : Int32)) X5 at_47 rfl rfl ?_
    refine w_laload (pc' := 49) (i := 0) (v := (.long (own_A x0 x1 x2 x3 0))) X5 F8 at_48 rfl (by decide) rfl rfl ?_
    refine w_aload (pc' := 51) X5 at_49 rfl rfl rfl ?_
    refine w_iconst (pc' := 52) (z := (0 : Int32)) X5 at_51 rfl rfl ?_
    refine w_laload (pc' := 53) (i := 0) (v := (.long (own_B x0 x1 x2 x3 0))) X5 F9 at_52 rfl (by decide) rfl rfl ?_
    refine w_ladd (pc' := 54) X5 at_53 rfl ?_
    refine w_lastore (pc' := 55) (i := 0) X5 F5 at_54 rfl (by decide) rfl g5 (fun T10 h10 X10 W10 => ?_)
    have F11 := F8.other W10 ne6
    have F12 := F9.other W10 ne7
    have F10 := F5.set W10
    refine w_dup (pc' := 56) X10 at_55 rfl rfl ?_
    refine w_iconst (pc' := 57) (z := (1 : Int32)) X10 at_56 rfl rfl ?_
    refine w_aload (pc' := 59) X10 at_57 rfl rfl rfl ?_
    refine w_iconst (pc' := 60) (z := (1 : Int32)) X10 at_59 rfl rfl ?_
    refine w_laload (pc' := 61) (i := 1) (v := (.long (own_A x0 x1 x2 x3 1))) X10 F11 at_60 rfl (by decide) rfl rfl ?_
    refine w_aload (pc' := 63) X10 at_61 rfl rfl rfl ?_
    refine w_iconst (pc' := 64) (z := (1 : Int32)) X10 at_63 rfl rfl ?_
    refine w_laload (pc' := 65) (i := 1) (v := (.long (own_B x0 x1 x2 x3 1))) X10 F12 at_64 rfl (by decide) rfl rfl ?_
    refine w_ladd (pc' := 66) X10 at_65 rfl ?_
    refine w_lastore (pc' := 67) (i := 1) X10 F10 at_66 rfl (by decide) rfl g5 (fun T13 h13 X13 W13 => ?_)
    have F14 := F11.other W13 ne6
    have F15 := F12.other W13 ne7
    have F13 := F10.set W13
    refine w_dup (pc' := 68) X13 at_67 rfl rfl ?_
    refine w_iconst (pc' := 69) (z := (2 : Int32)) X13 at_68 rfl rfl ?_
    refine w_aload (pc' := 71) X13 at_69 rfl rfl rfl ?_
    refine w_iconst (pc' := 72) (z := (2 : Int32)) X13 at_71 rfl rfl ?_
    refine w_laload (pc' := 73) (i := 2) (v := (.long (own_A x0 x1 x2 x3 2))) X13 F14 at_72 rfl (by decide) rfl rfl ?_
    refine w_aload (pc' := 75) X13 at_73 rfl rfl rfl ?_
    refine w_iconst (pc' := 76) (z := (2 : Int32)) X13 at_75 rfl rfl ?_
    refine w_laload (pc' := 77) (i := 2) (v := (.long (own_B x0 x1 x2 x3 2))) X13 F15 at_76 rfl (by decide) rfl rfl ?_
    refine w_ladd (pc' := 78) X13 at_77 rfl ?_
    refine w_lastore (pc' := 79) (i := 2) X13 F13 at_78 rfl (by decide) rfl g5 (fun T16 h16 X16 W16 => ?_)
    have F17 := F14.other W16 ne6
    have F18 := F15.other W16 ne7
    have F16 := F13.set W16
    refine w_dup (pc' := 80) X16 at_79 rfl rfl ?_
    refine w_iconst (pc' := 81) (z := (3 : Int32)) X16 at_80 rfl rfl ?_
    refine w_aload (pc' := 83) X16 at_81 rfl rfl rfl ?_
    refine w_iconst (pc' := 84) (z := (3 : Int32)) X16 at_83 rfl rfl ?_
    refine w_laload (pc' := 85) (i := 3) (v := (.long (own_A x0 x1 x2 x3 3))) X16 F17 at_84 rfl (by decide) rfl rfl ?_
    refine w_aload (pc' := 87) X16 at_85 rfl rfl rfl ?_
    refine w_iconst (pc' := 88) (z := (3 : Int32)) X16 at_87 rfl rfl ?_
    refine w_laload (pc' := 89) (i := 3) (v := (.long (own_B x0 x1 x2 x3 3))) X16 F18 at_88 rfl (by decide) rfl rfl ?_
    refine w_ladd (pc' := 90) X16 at_89 rfl ?_
    refine w_lastore (pc' := 91) (i := 3) X16 F16 at_90 rfl (by decide) rfl g5 (fun T19 h19 X19 W19 => ?_)
    have F20 := F17.other W19 ne6
    have F21 := F18.other W19 ne7
    have F19 := F16.set W19
    refine w_dup (pc' := 92) X19 at_91 rfl rfl ?_
    refine w_iconst (pc' := 93) (z := (4 : Int32)) X19 at_92 rfl rfl ?_
    refine w_aload (pc' := 95) X19 at_93 rfl rfl rfl ?_
    refine w_iconst (pc' := 96) (z := (4 : Int32)) X19 at_95 rfl rfl ?_
    refine w_laload (pc' := 97) (i := 4) (v := (.long (own_A x0 x1 x2 x3 4))) X19 F20 at_96 rfl (by decide) rfl rfl ?_
    refine w_aload (pc' := 99) X19 at_97 rfl rfl rfl ?_
    refine w_iconst (pc' := 100) (z := (4 : Int32)) X19 at_99 rfl rfl ?_
    refine w_laload (pc' := 101) (i := 4) (v := (.long (own_B x0 x1 x2 x3 4))) X19 F21 at_100 rfl (by decide) rfl rfl ?_
    refine w_ladd (pc' := 102) X19 at_101 rfl ?_
    refine w_lastore (pc' := 103) (i := 4) X19 F19 at_102 rfl (by decide) rfl g5 (fun T22 h22 X22 W22 => ?_)
    have F23 := F20.other W22 ne6
    have F24 := F21.other W22 ne7
    have F22 := F19.set W22
    refine w_dup (pc' := 104) X22 at_103 rfl rfl ?_
    refine w_iconst (pc' := 105) (z := (5 : Int32)) X22 at_104 rfl rfl ?_
    refine w_aload (pc' := 107) X22 at_105 rfl rfl rfl ?_
    refine w_iconst (pc' := 108) (z := (5 : Int32)) X22 at_107 rfl rfl ?_
    refine w_laload (pc' := 109) (i := 5) (v := (.long (own_A x0 x1 x2 x3 5))) X22 F23 at_108 rfl (by decide) rfl rfl ?_
    refine w_aload (pc' := 111) X22 at_109 rfl rfl rfl ?_
    refine w_iconst (pc' := 112) (z := (5 : Int32)) X22 at_111 rfl rfl ?_
    refine w_laload (pc' := 113) (i := 5) (v := (.long (own_B x0 x1 x2 x3 5))) X22 F24 at_112 rfl (by decide) rfl rfl ?_
    refine w_ladd (pc' := 114) X22 at_113 rfl ?_
    refine w_lastore (pc' := 115) (i := 5) X22 F22 at_114 rfl (by decide) rfl g5 (fun T25 h25 X25 W25 => ?_)
    have F26 := F23.other W25 ne6
    have F27 := F24.other W25 ne7
    have F25 := F22.set W25
    refine w_dup (pc' := 116) X25 at_115 rfl rfl ?_
    refine w_bipush (pc' := 118) (z := (6 : Int32)) X25 at_116 rfl rfl ?_
    refine w_aload (pc' := 120) X25 at_118 rfl rfl rfl ?_
    refine w_bipush (pc' := 122) (z := (6 : Int32)) X25 at_120 rfl rfl ?_
    refine w_laload (pc' := 123) (i := 6) (v := (.long (own_A x0 x1 x2 x3 6))) X25 F26 at_122 rfl (by decide) rfl rfl ?_
    refine w_aload (pc' := 125) X25 at_123 rfl rfl rfl ?_
    refine w_bipush (pc' := 127) (z := (6 : Int32)) X25 at_125 rfl rfl ?_
    refine w_laload (pc' := 128) (i := 6) (v := (.long (own_B x0 x1 x2 x3 6))) X25 F27 at_127 rfl (by decide) rfl rfl ?_
    refine w_ladd (pc' := 129) X25 at_128 rfl ?_
    refine w_lastore (pc' := 130) (i := 6) X25 F25 at_129 rfl (by decide) rfl g5 (fun T28 h28 X28 W28 => ?_)
    have F29 := F26.other W28 ne6
    have F30 := F27.other W28 ne7
    have F28 := F25.set W28
    refine w_dup (pc' := 131) X28 at_130 rfl rfl ?_
    refine w_bipush (pc' := 133) (z := (7 : Int32)) X28 at_131 rfl rfl ?_
    refine w_aload (pc' := 135) X28 at_133 rfl rfl rfl ?_
    refine w_bipush (pc' := 137) (z := (7 : Int32)) X28 at_135 rfl rfl ?_
    refine w_laload (pc' := 138) (i := 7) (v := (.long (own_A x0 x1 x2 x3 7))) X28 F29 at_137 rfl (by decide) rfl rfl ?_
    refine w_aload (pc' := 140) X28 at_138 rfl rfl rfl ?_
    refine w_bipush (pc' := 142) (z := (7 : Int32)) X28 at_140 rfl rfl ?_
    refine w_laload (pc' := 143) (i := 7) (v := (.long (own_B x0 x1 x2 x3 7))) X28 F30 at_142 rfl (by decide) rfl rfl ?_
    refine w_ladd (pc' := 144) X28 at_143 rfl ?_
    refine w_lastore (pc' := 145) (i := 7) X28 F28 at_144 rfl (by decide) rfl g5 (fun T31 h31 X31 W31 => ?_)
    have F32 := F29.other W31 ne6
    have F33 := F30.other W31 ne7
    have F31 := F28.set W31
    refine w_dup (pc' := 146) X31 at_145 rfl rfl ?_
    refine w_bipush (pc' := 148) (z := (8 : Int32)) X31 at_146 rfl rfl ?_
    refine w_aload (pc' := 150) X31 at_148 rfl rfl rfl ?_
    refine w_bipush (pc' := 152) (z := (8 : Int32)) X31 at_150 rfl rfl ?_
    refine w_laload (pc' := 153) (i := 8) (v := (.long (own_A x0 x1 x2 x3 8))) X31 F32 at_152 rfl (by decide) rfl rfl ?_
    refine w_aload (pc' := 155) X31 at_153 rfl rfl rfl ?_
    refine w_bipush (pc' := 157) (z := (8 : Int32)) X31 at_155 rfl rfl ?_
    refine w_laload (pc' := 158) (i := 8) (v := (.long (own_B x0 x1 x2 x3 8))) X31 F33 at_157 rfl (by decide) rfl rfl ?_
    refine w_ladd (pc' := 159) X31 at_158 rfl ?_
    refine w_lastore (pc' := 160) (i := 8) X31 F31 at_159 rfl (by decide) rfl g5 (fun T34 h34 X34 W34 => ?_)
    have F35 := F32.other W34 ne6
    have F36 := F33.other W34 ne7
    have F34 := F31.set W34
    refine w_dup (pc' := 161) X34 at_160 rfl rfl ?_
    refine w_bipush (pc' := 163) (z := (9 : Int32)) X34 at_161 rfl rfl ?_
    refine w_aload (pc' := 165) X34 at_163 rfl rfl rfl ?_
    refine w_bipush (pc' := 167) (z := (9 : Int32)) X34 at_165 rfl rfl ?_
    refine w_laload (pc' := 168) (i := 9) (v := (.long (own_A x0 x1 x2 x3 9))) X34 F35 at_167 rfl (by decide) rfl rfl ?_
    refine w_aload (pc' := 170) X34 at_168 rfl rfl rfl ?_
    refine w_bipush (pc' := 172) (z := (9 : Int32)) X34 at_170 rfl rfl ?_
    refine w_laload (pc' := 173) (i := 9) (v := (.long (own_B x0 x1 x2 x3 9))) X34 F36 at_172 rfl (by decide) rfl rfl ?_
    refine w_ladd (pc' := 174) X34 at_173 rfl ?_
    refine w_lastore (pc' := 175) (i := 9) X34 F34 at_174 rfl (by decide) rfl g5 (fun T37 h37 X37 W37 => ?_)
    have F38 := F35.other W37 ne6
    have F39 := F36.other W37 ne7
    have F37 := F34.set W37
    have Fe40 : AF Z h37 b5 .long 10 (fun j => .long ((own_A x0 x1 x2 x3) j + (own_B x0 x1 x2 x3) j)) := F37.congr (by
      intro j hj
      match j, hj with
      | 0, _ => rfl
      | 1, _ => rfl
      | 2, _ => rfl
      | 3, _ => rfl
      | 4, _ => rfl
      | 5, _ => rfl
      | 6, _ => rfl
      | 7, _ => rfl
      | 8, _ => rfl
      | 9, _ => rfl
      | _ + 10, hj => exact absurd hj (by omega))
    refine w_astore (pc' := 177) (L' := #[.val (.long x0), .second, .val (.long x1), .second, .val (.long x2), .second, .val (.long x3), .second, .val (.int mode), .val (.int (0 : Int32)), .val (.ref rb1), .val (.ref rb2), .val (.ref b5), .unset, .unset, .unset, .unset]) X37 at_175 rfl rfl rfl ?_
    refine w_lloadN (pc' := 178) X37 at_177 rfl rfl ?_
    refine w_lloadN (pc' := 179) X37 at_178 rfl rfl ?_
    refine w_lload (pc' := 181) X37 at_179 rfl rfl ?_
    refine w_lload (pc' := 183) X37 at_181 rfl rfl ?_
    refine w_callS (pc' := 186) (wd := 0) (argsL := [(.long x0), (.long x1), (.long x2), (.long x3)]) (rest := []) (Q2 := (rm1_Q Z x0 x1 x2 x3 h37 n0)) X37 at_183 (hw _ (List.mem_of_getElem? (i := 0) rfl)) (hw _ (List.mem_of_getElem? (i := 1) rfl)) (hw _ (List.mem_of_getElem? (i := 2) rfl)) (hw _ (List.mem_of_getElem? (i := 3) rfl)) (by decide) (rm1 l Z a0 hw [] x0 x1 x2 x3 h37 n0 X37.size) pd_282 rfl rfl rfl (Nat.le_of_eq rfl) (by decide) (fun v41 T41 h41 X41 q41 => ?_)
    obtain ⟨rb41, rfl, kb41, Kc41, Fb41⟩ := q41
    have ne42 : rb1 ≠ rb41 := Nat.ne_of_lt (Nat.lt_of_lt_of_le F38.lt kb41)
    have ne43 : rb2 ≠ rb41 := Nat.ne_of_lt (Nat.lt_of_lt_of_le F39.lt kb41)
    have ne44 : b5 ≠ rb41 := Nat.ne_of_lt (Nat.lt_of_lt_of_le Fe40.lt kb41)
    have F45 := F38.keep Kc41 nin0
    have F46 := F39.keep Kc41 nin0
    have F47 := Fe40.keep Kc41 nin0
    have gb41 : n0 ≤ rb41 := Nat.le_trans X37.size kb41
    refine w_astore (pc' := 188) (L' := #[.val (.long x0), .second, .val (.long x1), .second, .val (.long x2), .second, .val (.long x3), .second, .val (.int mode), .val (.int (0 : Int32)), .val (.ref rb1), .val (.ref rb2), .val (.ref b5), .val (.ref rb41), .unset, .unset, .unset]) X41 at_186 rfl rfl rfl ?_
    refine w_lloadN (pc' := 189) X41 at_188 rfl rfl ?_
    refine w_lloadN (pc' := 190) X41 at_189 rfl rfl ?_
    refine w_lload (pc' := 192) X41 at_190 rfl rfl ?_
    refine w_lload (pc' := 194) X41 at_192 rfl rfl ?_
    refine w_callS (pc' := 197) (wd := 0) (argsL := [(.long x0), (.long x1), (.long x2), (.long x3)]) (rest := []) (Q2 := (rm2_Q Z x0 x1 x2 x3 h41 n0)) X41 at_194 (hw _ (List.mem_of_getElem? (i := 7) rfl)) (hw _ (List.mem_of_getElem? (i := 8) rfl)) (hw _ (List.mem_of_getElem? (i := 2) rfl)) (hw _ (List.mem_of_getElem? (i := 9) rfl)) (by decide) (rm2 l Z a0 hw [] x0 x1 x2 x3 h41 n0 X41.size) pd_282 rfl rfl rfl (Nat.le_of_eq rfl) (by decide) (fun v48 T48 h48 X48 q48 => ?_)
    obtain ⟨rb48, rfl, kb48, Kc48, Fb48⟩ := q48
    have ne49 : rb1 ≠ rb48 := Nat.ne_of_lt (Nat.lt_of_lt_of_le F45.lt kb48)
    have ne50 : rb2 ≠ rb48 := Nat.ne_of_lt (Nat.lt_of_lt_of_le F46.lt kb48)
    have ne51 : b5 ≠ rb48 := Nat.ne_of_lt (Nat.lt_of_lt_of_le F47.lt kb48)
    have ne52 : rb41 ≠ rb48 := Nat.ne_of_lt (Nat.lt_of_lt_of_le Fb41.lt kb48)
    have F53 := F45.keep Kc48 nin0
    have F54 := F46.keep Kc48 nin0
    have F55 := F47.keep Kc48 nin0
    have F56 := Fb41.keep Kc48 nin0
    have gb48 : n0 ≤ rb48 := Nat.le_trans X41.size kb48
    refine w_astore (pc' := 199) (L' := #[.val (.long x0), .second, .val (.long x1), .second, .val (.long x2), .second, .val (.long x3), .second, .val (.int mode), .val (.int (0 : Int32)), .val (.ref rb1), .val (.ref rb2), .val (.ref b5), .val (.ref rb41), .val (.ref rb48), .unset, .unset]) X48 at_197 rfl rfl rfl ?_
    refine w_iload (pc' := 201) X48 at_199 rfl rfl ?_
    refine w_if_ne (pc1 := 218) (pc2 := 204) X48 at_201 (by decide) (fun (hc201 : (0 : Int32) ≠ (0 : Int32)) => absurd hc201 (by decide)) (fun (hc201 : (0 : Int32) = (0 : Int32)) => ?_)
    refine w_lloadN (pc' := 205) X48 at_204 rfl rfl ?_
    refine w_lloadN (pc' := 206) X48 at_205 rfl rfl ?_
    refine w_lload (pc' := 208) X48 at_206 rfl rfl ?_
    refine w_lload (pc' := 210) X48 at_208 rfl rfl ?_
    refine w_callS (pc' := 213) (wd := 0) (argsL := [(.long x0), (.long x1), (.long x2), (.long x3)]) (rest := []) (Q2 := (rm5_Q Z x0 x1 x2 x3 h48 n0)) X48 at_210 (hw _ (List.mem_of_getElem? (i := 19) rfl)) (hw _ (List.mem_of_getElem? (i := 20) rfl)) (hw _ (List.mem_of_getElem? (i := 2) rfl)) (hw _ (List.mem_of_getElem? (i := 21) rfl)) (by decide) (rm5 l Z a0 hw [] x0 x1 x2 x3 h48 n0 X48.size) pd_282 rfl rfl rfl (Nat.le_of_eq rfl) (by decide) (fun v57 T57 h57 X57 q57 => ?_)
    obtain ⟨rb57, rfl, kb57, Kc57, Fb57⟩ := q57
    have ne58 : rb1 ≠ rb57 := Nat.ne_of_lt (Nat.lt_of_lt_of_le F53.lt kb57)
    have ne59 : rb2 ≠ rb57 := Nat.ne_of_lt (Nat.lt_of_lt_of_le F54.lt kb57)
    have ne60 : b5 ≠ rb57 := Nat.ne_of_lt (Nat.lt_of_lt_of_le F55.lt kb57)
    have ne61 : rb41 ≠ rb57 := Nat.ne_of_lt (Nat.lt_of_lt_of_le F56.lt kb57)
    have ne62 : rb48 ≠ rb57 := Nat.ne_of_lt (Nat.lt_of_lt_of_le Fb48.lt kb57)
    have F63 := F53.keep Kc57 nin0
    have F64 := F54.keep Kc57 nin0
    have F65 := F55.keep Kc57 nin0
    have F66 := F56.keep Kc57 nin0
    have F67 := Fb48.keep Kc57 nin0
    have gb57 : n0 ≤ rb57 := Nat.le_trans X48.size kb57
    refine w_astore (pc' := 215) (L' := #[.val (.long x0), .second, .val (.long x1), .second, .val (.long x2), .second, .val (.long x3), .second, .val (.int mode), .val (.int (0 : Int32)), .val (.ref rb1), .val (.ref rb2), .val (.ref b5), .val (.ref rb41), .val (.ref rb48), .val (.ref rb57), .unset]) X57 at_213 rfl rfl rfl ?_
    refine w_goto (pc' := 235) X57 at_215 (by decide) ?_
    refine w_aload (pc' := 237) X57 at_235 rfl rfl rfl ?_
    refine w_aload (pc' := 239) X57 at_237 rfl rfl rfl ?_
    refine w_aload (pc' := 241) X57 at_239 rfl rfl rfl ?_
    refine w_callS (pc' := 244) (wd := 0) (argsL := [(.ref rb57), (.ref rb1), (.ref rb2)]) (rest := []) (Q2 := (rm3_Q Z rb57 rb1 rb2 (own_G x0 x1 x2 x3) (own_A x0 x1 x2 x3) (own_B x0 x1 x2 x3) h57 n0)) X57 at_241 (hw _ (List.mem_of_getElem? (i := 12) rfl)) (hw _ (List.mem_of_getElem? (i := 13) rfl)) (hw _ (List.mem_of_getElem? (i := 14) rfl)) (hw _ (List.mem_of_getElem? (i := 15) rfl)) (by decide) (rm3 l Z a0 hw [] rb57 rb1 rb2 (own_G x0 x1 x2 x3) (own_A x0 x1 x2 x3) (own_B x0 x1 x2 x3) h57 n0 X57.size Fb57 F63 F64 gb57) pd_283 rfl rfl rfl (Nat.le_of_eq rfl) (by decide) (fun v68 T68 h68 X68 q68 => ?_)
    obtain ⟨rfl, Kc68, Fc68⟩ := q68
    have F69 := F63.keep Kc68 (ninS ne58 nin0)
    have F70 := F64.keep Kc68 (ninS ne59 nin0)
    have F71 := F65.keep Kc68 (ninS ne60 nin0)
    have F72 := F66.keep Kc68 (ninS ne61 nin0)
    have F73 := F67.keep Kc68 (ninS ne62 nin0)
    refine w_aload (pc' := 246) X68 at_244 rfl rfl rfl ?_
    refine w_aload (pc' := 248) X68 at_246 rfl rfl rfl ?_
    refine w_callS (pc' := 251) (wd := 0) (argsL := [(.ref rb57), (.ref b5)]) (rest := []) (Q2 := (rm4_Q Z rb57 b5 (fun j => (own_A x0 x1 x2 x3) j + (own_B x0 x1 x2 x3) j) h68 n0)) X68 at_248 (hw _ (List.mem_of_getElem? (i := 16) rfl)) (hw _ (List.mem_of_getElem? (i := 17) rfl)) (hw _ (List.mem_of_getElem? (i := 2) rfl)) (hw _ (List.mem_of_getElem? (i := 18) rfl)) (by decide) (rm4 l Z a0 hw [] rb57 b5 (fun j => (own_A x0 x1 x2 x3) j + (own_B x0 x1 x2 x3) j) h68 n0 X68.size Fc68 F71) pd_284 rfl rfl rfl (Nat.le_of_eq rfl) (by decide) (fun v74 T74 h74 X74 q74 => ?_)
    obtain ⟨rfl, rfl⟩ := q74
    refine w_istore (pc' := 253) (L' := #[.val (.long x0), .second, .val (.long x1), .second, .val (.long x2), .second, .val (.long x3), .second, .val (.int mode), .val (.int (0 : Int32)), .val (.ref rb1), .val (.ref rb2), .val (.ref b5), .val (.ref rb41), .val (.ref rb48), .val (.ref rb57), .val (.int (1 : Int32))]) X74 at_251 rfl rfl ?_
    refine w_iload (pc' := 255) X74 at_253 rfl rfl ?_
    refine w_if_ne (pc1 := 290) (pc2 := 258) X74 at_255 (by decide) (fun (hc255 : (0 : Int32) ≠ (0 : Int32)) => absurd hc255 (by decide)) (fun (hc255 : (0 : Int32) = (0 : Int32)) => ?_)
    refine w_iload (pc' := 260) X74 at_258 rfl rfl ?_
    refine w_if_eq (pc1 := 287) (pc2 := 263) X74 at_260 (by decide) (fun (hc260 : (1 : Int32) = (0 : Int32)) => absurd hc260 (by decide)) (fun (hc260 : (1 : Int32) ≠ (0 : Int32)) => ?_)
    refine w_aload (pc' := 265) X74 at_263 rfl rfl rfl ?_
    refine w_aload (pc' := 267) X74 at_265 rfl rfl rfl ?_
    refine w_callS (pc' := 270) (wd := 0) (argsL := [(.ref rb1), (.ref rb41)]) (rest := []) (Q2 := (rm4_Q Z rb1 rb41 (own_A x0 x1 x2 x3) h68 n0)) X74 at_267 (hw _ (List.mem_of_getElem? (i := 16) rfl)) (hw _ (List.mem_of_getElem? (i := 17) rfl)) (hw _ (List.mem_of_getElem? (i := 2) rfl)) (hw _ (List.mem_of_getElem? (i := 18) rfl)) (by decide) (rm4 l Z a0 hw [] rb1 rb41 (own_A x0 x1 x2 x3) h68 n0 X74.size F69 F72) pd_284 rfl rfl rfl (Nat.le_of_eq rfl) (by decide) (fun v75 T75 h75 X75 q75 => ?_)
    obtain ⟨rfl, rfl⟩ := q75
    refine w_if_eq (pc1 := 287) (pc2 := 273) X75 at_270 (by decide) (fun (hc270 : (1 : Int32) = (0 : Int32)) => absurd hc270 (by decide)) (fun (hc270 : (1 : Int32) ≠ (0 : Int32)) => ?_)
    refine w_aload (pc' := 275) X75 at_273 rfl rfl rfl ?_
    refine w_aload (pc' := 277) X75 at_275 rfl rfl rfl ?_
    refine w_callS (pc' := 280) (wd := 0) (argsL := [(.ref rb2), (.ref rb48)]) (rest := []) (Q2 := (rm4_Q Z rb2 rb48 (own_B x0 x1 x2 x3) h68 n0)) X75 at_277 (hw _ (List.mem_of_getElem? (i := 16) rfl)) (hw _ (List.mem_of_getElem? (i := 17) rfl)) (hw _ (List.mem_of_getElem? (i := 2) rfl)) (hw _ (List.mem_of_getElem? (i := 18) rfl)) (by decide) (rm4 l Z a0 hw [] rb2 rb48 (own_B x0 x1 x2 x3) h68 n0 X75.size F70 F73) pd_284 rfl rfl rfl (Nat.le_of_eq rfl) (by decide) (fun v76 T76 h76 X76 q76 => ?_)
    obtain ⟨rfl, rfl⟩ := q76
    refine w_if_eq (pc1 := 287) (pc2 := 283) X76 at_280 (by decide) (fun (hc280 : (1 : Int32) = (0 : Int32)) => absurd hc280 (by decide)) (fun (hc280 : (1 : Int32) ≠ (0 : Int32)) => ?_)
    refine w_iconst (pc' := 284) (z := (1 : Int32)) X76 at_283 rfl rfl ?_
    refine w_goto (pc' := 288) X76 at_284 (by decide) ?_
    refine w_istore (pc' := 290) (L' := #[.val (.long x0), .second, .val (.long x1), .second, .val (.long x2), .second, .val (.long x3), .second, .val (.int mode), .val (.int (0 : Int32)), .val (.ref rb1), .val (.ref rb2), .val (.ref b5), .val (.ref rb41), .val (.ref rb48), .val (.ref rb57), .val (.int (1 : Int32))]) X76 at_288 rfl rfl ?_
    refine w_iload (pc' := 292) X76 at_290 rfl rfl ?_
    refine w_iconst (pc' := 293) (z := (1 : Int32)) X76 at_292 rfl rfl ?_
    refine w_icmp_ne (pc1 := 318) (pc2 := 296) X76 at_293 (by decide) (fun (hc293 : (0 : Int32) ≠ (1 : Int32)) => ?_) (fun (hc293 : (0 : Int32) = (1 : Int32)) => absurd hc293 (by decide))
    refine w_iload (pc' := 320) X76 at_318 rfl rfl ?_
    refine w_iconst (pc' := 321) (z := (2 : Int32)) X76 at_320 rfl rfl ?_
    refine w_icmp_ne (pc1 := 346) (pc2 := 324) X76 at_321 (by decide) (fun (hc321 : (0 : Int32) ≠ (2 : Int32)) => ?_) (fun (hc321 : (0 : Int32) = (2 : Int32)) => absurd hc321 (by decide))
    refine w_iload (pc' := 348) X76 at_346 rfl rfl ?_
    exact w_nreturn (t := .boolean) X76 at_348 rfl (by simp) (rfl)
  · rw [hm]
    refine w_iload (pc' := 19) X1 at_17 rfl rfl ?_
    refine w_iconst (pc' := 20) (z := (3 : Int32)) X1 at_19 rfl rfl ?_
    refine w_icmp_ne (pc1 := 28) (pc2 := 23) X1 at_20 (by decide) (fun (hc20 : (1 : Int32) ≠ (3 : Int32)) => ?_) (fun (hc20 : (1 : Int32) = (3 : Int32)) => absurd hc20 (by decide))
    refine w_lloadN (pc' := 29) X1 at_28 rfl rfl ?_
    refine w_lloadN (pc' := 30) X1 at_29 rfl rfl ?_
    refine w_lload (pc' := 32) X1 at_30 rfl rfl ?_
    refine w_lload (pc' := 34) X1 at_32 rfl rfl ?_
    refine w_callS (pc' := 37) (wd := 0) (argsL := [(.long x0), (.long x1), (.long x2), (.long x3)]) (rest := []) (Q2 := (rm2_Q Z x0 x1 x2 x3 h1 n0)) X1 at_34 (hw _ (List.mem_of_getElem? (i := 7) rfl)) (hw _ (List.mem_of_getElem? (i := 8) rfl)) (hw _ (List.mem_of_getElem? (i := 2) rfl)) (hw _ (List.mem_of_getElem? (i := 9) rfl)) (by decide) (rm2 l Z a0 hw [] x0 x1 x2 x3 h1 n0 X1.size) pd_282 rfl rfl rfl (Nat.le_of_eq rfl) (by decide) (fun v77 T77 h77 X77 q77 => ?_)
    obtain ⟨rb77, rfl, kb77, Kc77, Fb77⟩ := q77
    have ne78 : rb1 ≠ rb77 := Nat.ne_of_lt (Nat.lt_of_lt_of_le Fb1.lt kb77)
    have F79 := Fb1.keep Kc77 nin0
    have gb77 : n0 ≤ rb77 := Nat.le_trans X1.size kb77
    refine w_astore (pc' := 39) (L' := #[.val (.long x0), .second, .val (.long x1), .second, .val (.long x2), .second, .val (.long x3), .second, .val (.int mode), .val (.int (1 : Int32)), .val (.ref rb1), .val (.ref rb77), .unset, .unset, .unset, .unset, .unset]) X77 at_37 rfl rfl rfl ?_
    refine w_bipush (pc' := 41) (z := (10 : Int32)) X77 at_39 rfl rfl ?_
    refine w_newarray (pc' := 43) (n := 10) (cap := 10) X77 at_41 (hw _ (List.mem_of_getElem? (i := 4) rfl)) rfl (by decide) (by decide) (fun T80 h80 b80 X80 E80 q80 g80 F80 => ?_)
    have ne81 : rb1 ≠ b80 := ne_size q80 F79.lt
    have ne82 : rb77 ≠ b80 := ne_size q80 Fb77.lt
    have F83 := F79.ext E80
    have F84 := Fb77.ext E80
    refine w_dup (pc' := 44) X80 at_43 rfl rfl ?_
    refine w_iconst (pc' := 45) (z := (0 : Int32)) X80 at_44 rfl rfl ?_
    refine w_aload (pc' := 47) X80 at_45 rfl rfl rfl ?_
    refine w_iconst (pc' := 48) (z := (0 : Int32)) X80 at_47 rfl rfl ?_
    refine w_laload (pc' := 49) (i := 0) (v := (.long (own_A x0 x1 x2 x3 0))) X80 F83 at_48 rfl (by decide) rfl rfl ?_
    refine w_aload (pc' := 51) X80 at_49 rfl rfl rfl ?_
    refine w_iconst (pc' := 52) (z := (0 : Int32)) X80 at_51 rfl rfl ?_
    refine w_laload (pc' := 53) (i := 0) (v := (.long (own_B x0 x1 x2 x3 0))) X80 F84 at_52 rfl (by decide) rfl rfl ?_
    refine w_ladd (pc' := 54) X80 at_53 rfl ?_
    refine w_lastore (pc' := 55) (i := 0) X80 F80 at_54 rfl (by decide) rfl g80 (fun T85 h85 X85 W85 => ?_)
    have F86 := F83.other W85 ne81
    have F87 := F84.other W85 ne82
    have F85 := F80.set W85
    refine w_dup (pc' := 56) X85 at_55 rfl rfl ?_
    refine w_iconst (pc' := 57) (z := (1 : Int32)) X85 at_56 rfl rfl ?_
    refine w_aload (pc' := 59) X85 at_57 rfl rfl rfl ?_
    refine w_iconst (pc' := 60) (z := (1 : Int32)) X85 at_59 rfl rfl ?_
    refine w_laload (pc' := 61) (i := 1) (v := (.long (own_A x0 x1 x2 x3 1))) X85 F86 at_60 rfl (by decide) rfl rfl ?_
    refine w_aload (pc' := 63) X85 at_61 rfl rfl rfl ?_
    refine w_iconst (pc' := 64) (z := (1 : Int32)) X85 at_63 rfl rfl ?_
    refine w_laload (pc' := 65) (i := 1) (v := (.long (own_B x0 x1 x2 x3 1))) X85 F87 at_64 rfl (by decide) rfl rfl ?_
    refine w_ladd (pc' := 66) X85 at_65 rfl ?_
    refine w_lastore (pc' := 67) (i := 1) X85 F85 at_66 rfl (by decide) rfl g80 (fun T88 h88 X88 W88 => ?_)
    have F89 := F86.other W88 ne81
    have F90 := F87.other W88 ne82
    have F88 := F85.set W88
    refine w_dup (pc' := 68) X88 at_67 rfl rfl ?_
    refine w_iconst (pc' := 69) (z := (2 : Int32)) X88 at_68 rfl rfl ?_
    refine w_aload (pc' := 71) X88 at_69 rfl rfl rfl ?_
    refine w_iconst (pc' := 72) (z := (2 : Int32)) X88 at_71 rfl rfl ?_
    refine w_laload (pc' := 73) (i := 2) (v := (.long (own_A x0 x1 x2 x3 2))) X88 F89 at_72 rfl (by decide) rfl rfl ?_
    refine w_aload (pc' := 75) X88 at_73 rfl rfl rfl ?_
    refine w_iconst (pc' := 76) (z := (2 : Int32)) X88 at_75 rfl rfl ?_
    refine w_laload (pc' := 77) (i := 2) (v := (.long (own_B x0 x1 x2 x3 2))) X88 F90 at_76 rfl (by decide) rfl rfl ?_
    refine w_ladd (pc' := 78) X88 at_77 rfl ?_
    refine w_lastore (pc' := 79) (i := 2) X88 F88 at_78 rfl (by decide) rfl g80 (fun T91 h91 X91 W91 => ?_)
    have F92 := F89.other W91 ne81
    have F93 := F90.other W91 ne82
    have F91 := F88.set W91
    refine w_dup (pc' := 80) X91 at_79 rfl rfl ?_
    refine w_iconst (pc' := 81) (z := (3 : Int32)) X91 at_80 rfl rfl ?_
    refine w_aload (pc' := 83) X91 at_81 rfl rfl rfl ?_
    refine w_iconst (pc' := 84) (z := (3 : Int32)) X91 at_83 rfl rfl ?_
    refine w_laload (pc' := 85) (i := 3) (v := (.long (own_A x0 x1 x2 x3 3))) X91 F92 at_84 rfl (by decide) rfl rfl ?_
    refine w_aload (pc' := 87) X91 at_85 rfl rfl rfl ?_
    refine w_iconst (pc' := 88) (z := (3 : Int32)) X91 at_87 rfl rfl ?_
    refine w_laload (pc' := 89) (i := 3) (v := (.long (own_B x0 x1 x2 x3 3))) X91 F93 at_88 rfl (by decide) rfl rfl ?_
    refine w_ladd (pc' := 90) X91 at_89 rfl ?_
    refine w_lastore (pc' := 91) (i := 3) X91 F91 at_90 rfl (by decide) rfl g80 (fun T94 h94 X94 W94 => ?_)
    have F95 := F92.other W94 ne81
    have F96 := F93.other W94 ne82
    have F94 := F91.set W94
    refine w_dup (pc' := 92) X94 at_91 rfl rfl ?_
    refine w_iconst (pc' := 93) (z := (4 : Int32)) X94 at_92 rfl rfl ?_
    refine w_aload (pc' := 95) X94 at_93 rfl rfl rfl ?_
    refine w_iconst (pc' := 96) (z := (4 : Int32)) X94 at_95 rfl rfl ?_
    refine w_laload (pc' := 97) (i := 4) (v := (.long (own_A x0 x1 x2 x3 4))) X94 F95 at_96 rfl (by decide) rfl rfl ?_
    refine w_aload (pc' := 99) X94 at_97 rfl rfl rfl ?_
    refine w_iconst (pc' := 100) (z := (4 : Int32)) X94 at_99 rfl rfl ?_
    refine w_laload (pc' := 101) (i := 4) (v := (.long (own_B x0 x1 x2 x3 4))) X94 F96 at_100 rfl (by decide) rfl rfl ?_
    refine w_ladd (pc' := 102) X94 at_101 rfl ?_
    refine w_lastore (pc' := 103) (i := 4) X94 F94 at_102 rfl (by decide) rfl g80 (fun T97 h97 X97 W97 => ?_)
    have F98 := F95.other W97 ne81
    have F99 := F96.other W97 ne82
    have F97 := F94.set W97
    refine w_dup (pc' := 104) X97 at_103 rfl rfl ?_
    refine w_iconst (pc' := 105) (z := (5 : Int32)) X97 at_104 rfl rfl ?_
    refine w_aload (pc' := 107) X97 at_105 rfl rfl rfl ?_
    refine w_iconst (pc' := 108) (z := (5 : Int32)) X97 at_107 rfl rfl ?_
    refine w_laload (pc' := 109) (i := 5) (v := (.long (own_A x0 x1 x2 x3 5))) X97 F98 at_108 rfl (by decide) rfl rfl ?_
    refine w_aload (pc' := 111) X97 at_109 rfl rfl rfl ?_
    refine w_iconst (pc' := 112) (z := (5 : Int32)) X97 at_111 rfl rfl ?_
    refine w_laload (pc' := 113) (i := 5) (v := (.long (own_B x0 x1 x2 x3 5))) X97 F99 at_112 rfl (by decide) rfl rfl ?_
    refine w_ladd (pc' := 114) X97 at_113 rfl ?_
    refine w_lastore (pc' := 115) (i := 5) X97 F97 at_114 rfl (by decide) rfl g80 (fun T100 h100 X100 W100 => ?_)
    have F101 := F98.other W100 ne81
    have F102 := F99.other W100 ne82
    have F100 := F97.set W100
    refine w_dup (pc' := 116) X100 at_115 rfl rfl ?_
    refine w_bipush (pc' := 118) (z := (6 : Int32)) X100 at_116 rfl rfl ?_
    refine w_aload (pc' := 120) X100 at_118 rfl rfl rfl ?_
    refine w_bipush (pc' := 122) (z := (6 : Int32)) X100 at_120 rfl rfl ?_
    refine w_laload (pc' := 123) (i := 6) (v := (.long (own_A x0 x1 x2 x3 6))) X100 F101 at_122 rfl (by decide) rfl rfl ?_
    refine w_aload (pc' := 125) X100 at_123 rfl rfl rfl ?_
    refine w_bipush (pc' := 127) (z := (6 : Int32)) X100 at_125 rfl rfl ?_
    refine w_laload (pc' := 128) (i := 6) (v := (.long (own_B x0 x1 x2 x3 6))) X100 F102 at_127 rfl (by decide) rfl rfl ?_
    refine w_ladd (pc' := 129) X100 at_128 rfl ?_
    refine w_lastore (pc' := 130) (i := 6) X100 F100 at_129 rfl (by decide) rfl g80 (fun T103 h103 X103 W103 => ?_)
    have F104 := F101.other W103 ne81
    have F105 := F102.other W103 ne82
    have F103 := F100.set W103
    refine w_dup (pc' := 131) X103 at_130 rfl rfl ?_
    refine w_bipush (pc' := 133) (z := (7 : Int32)) X103 at_131 rfl rfl ?_
    refine w_aload (pc' := 135) X103 at_133 rfl rfl rfl ?_
    refine w_bipush (pc' := 137) (z := (7 : Int32)) X103 at_135 rfl rfl ?_
    refine w_laload (pc' := 138) (i := 7) (v := (.long (own_A x0 x1 x2 x3 7))) X103 F104 at_137 rfl (by decide) rfl rfl ?_
    refine w_aload (pc' := 140) X103 at_138 rfl rfl rfl ?_
    refine w_bipush (pc' := 142) (z := (7 : Int32)) X103 at_140 rfl rfl ?_
    refine w_laload (pc' := 143) (i := 7) (v := (.long (own_B x0 x1 x2 x3 7))) X103 F105 at_142 rfl (by decide) rfl rfl ?_
    refine w_ladd (pc' := 144) X103 at_143 rfl ?_
    refine w_lastore (pc' := 145) (i := 7) X103 F103 at_144 rfl (by decide) rfl g80 (fun T106 h106 X106 W106 => ?_)
    have F107 := F104.other W106 ne81
    have F108 := F105.other W106 ne82
    have F106 := F103.set W106
    refine w_dup (pc' := 146) X106 at_145 rfl rfl ?_
    refine w_bipush (pc' := 148) (z := (8 : Int32)) X106 at_146 rfl rfl ?_
    refine w_aload (pc' := 150) X106 at_148 rfl rfl rfl ?_
    refine w_bipush (pc' := 152) (z := (8 : Int32)) X106 at_150 rfl rfl ?_
    refine w_laload (pc' := 153) (i := 8) (v := (.long (own_A x0 x1 x2 x3 8))) X106 F107 at_152 rfl (by decide) rfl rfl ?_
    refine w_aload (pc' := 155) X106 at_153 rfl rfl rfl ?_
    refine w_bipush (pc' := 157) (z := (8 : Int32)) X106 at_155 rfl rfl ?_
    refine w_laload (pc' := 158) (i := 8) (v := (.long (own_B x0 x1 x2 x3 8))) X106 F108 at_157 rfl (by decide) rfl rfl ?_
    refine w_ladd (pc' := 159) X106 at_158 rfl ?_
    refine w_lastore (pc' := 160) (i := 8) X106 F106 at_159 rfl (by decide) rfl g80 (fun T109 h109 X109 W109 => ?_)
    have F110 := F107.other W109 ne81
    have F111 := F108.other W109 ne82
    have F109 := F106.set W109
    refine w_dup (pc' := 161) X109 at_160 rfl rfl ?_
    refine w_bipush (pc' := 163) (z := (9 : Int32)) X109 at_161 rfl rfl ?_
    refine w_aload (pc' := 165) X109 at_163 rfl rfl rfl ?_
    refine w_bipush (pc' := 167) (z := (9 : Int32)) X109 at_165 rfl rfl ?_
    refine w_laload (pc' := 168) (i := 9) (v := (.long (own_A x0 x1 x2 x3 9))) X109 F110 at_167 rfl (by decide) rfl rfl ?_
    refine w_aload (pc' := 170) X109 at_168 rfl rfl rfl ?_
    refine w_bipush (pc' := 172) (z := (9 : Int32)) X109 at_170 rfl rfl ?_
    refine w_laload (pc' := 173) (i := 9) (v := (.long (own_B x0 x1 x2 x3 9))) X109 F111 at_172 rfl (by decide) rfl rfl ?_
    refine w_ladd (pc' := 174) X109 at_173 rfl ?_
    refine w_lastore (pc' := 175) (i := 9) X109 F109 at_174 rfl (by decide) rfl g80 (fun T112 h112 X112 W112 => ?_)
    have F113 := F110.other W112 ne81
    have F114 := F111.other W112 ne82
    have F112 := F109.set W112
    have Fe115 : AF Z h112 b80 .long 10 (fun j => .long ((own_A x0 x1 x2 x3) j + (own_B x0 x1 x2 x3) j)) := F112.congr (by
      intro j hj
      match j, hj with
      | 0, _ => rfl
      | 1, _ => rfl
      | 2, _ => rfl
      | 3, _ => rfl
      | 4, _ => rfl
      | 5, _ => rfl
      | 6, _ => rfl
      | 7, _ => rfl
      | 8, _ => rfl
      | 9, _ => rfl
      | _ + 10, hj => exact absurd hj (by omega))
    refine w_astore (pc' := 177) (L' := #[.val (.long x0), .second, .val (.long x1), .second, .val (.long x2), .second, .val (.long x3), .second, .val (.int mode), .val (.int (1 : Int32)), .val (.ref rb1), .val (.ref rb77), .val (.ref b80), .unset, .unset, .unset, .unset]) X112 at_175 rfl rfl rfl ?_
    refine w_lloadN (pc' := 178) X112 at_177 rfl rfl ?_
    refine w_lloadN (pc' := 179) X112 at_178 rfl rfl ?_
    refine w_lload (pc' := 181) X112 at_179 rfl rfl ?_
    refine w_lload (pc' := 183) X112 at_181 rfl rfl ?_
    refine w_callS (pc' := 186) (wd := 0) (argsL := [(.long x0), (.long x1), (.long x2), (.long x3)]) (rest := []) (Q2 := (rm1_Q Z x0 x1 x2 x3 h112 n0)) X112 at_183 (hw _ (List.mem_of_getElem? (i := 0) rfl)) (hw _ (List.mem_of_getElem? (i := 1) rfl)) (hw _ (List.mem_of_getElem? (i := 2) rfl)) (hw _ (List.mem_of_getElem? (i := 3) rfl)) (by decide) (rm1 l Z a0 hw [] x0 x1 x2 x3 h112 n0 X112.size) pd_282 rfl rfl rfl (Nat.le_of_eq rfl) (by decide) (fun v116 T116 h116 X116 q116 => ?_)
    obtain ⟨rb116, rfl, kb116, Kc116, Fb116⟩ := q116
    have ne117 : rb1 ≠ rb116 := Nat.ne_of_lt (Nat.lt_of_lt_of_le F113.lt kb116)
    have ne118 : rb77 ≠ rb116 := Nat.ne_of_lt (Nat.lt_of_lt_of_le F114.lt kb116)
    have ne119 : b80 ≠ rb116 := Nat.ne_of_lt (Nat.lt_of_lt_of_le Fe115.lt kb116)
    have F120 := F113.keep Kc116 nin0
    have F121 := F114.keep Kc116 nin0
    have F122 := Fe115.keep Kc116 nin0
    have gb116 : n0 ≤ rb116 := Nat.le_trans X112.size kb116
    refine w_astore (pc' := 188) (L' := #[.val (.long x0), .second, .val (.long x1), .second, .val (.long x2), .second, .val (.long x3), .second, .val (.int mode), .val (.int (1 : Int32)), .val (.ref rb1), .val (.ref rb77), .val (.ref b80), .val (.ref rb116), .unset, .unset, .unset]) X116 at_186 rfl rfl rfl ?_
    refine w_lloadN (pc' := 189) X116 at_188 rfl rfl ?_
    refine w_lloadN (pc' := 190) X116 at_189 rfl rfl ?_
    refine w_lload (pc' := 192) X116 at_190 rfl rfl ?_
    refine w_lload (pc' := 194) X116 at_192 rfl rfl ?_
    refine w_callS (pc' := 197) (wd := 0) (argsL := [(.long x0), (.long x1), (.long x2), (.long x3)]) (rest := []) (Q2 := (rm2_Q Z x0 x1 x2 x3 h116 n0)) X116 at_194 (hw _ (List.mem_of_getElem? (i := 7) rfl)) (hw _ (List.mem_of_getElem? (i := 8) rfl)) (hw _ (List.mem_of_getElem? (i := 2) rfl)) (hw _ (List.mem_of_getElem? (i := 9) rfl)) (by decide) (rm2 l Z a0 hw [] x0 x1 x2 x3 h116 n0 X116.size) pd_282 rfl rfl rfl (Nat.le_of_eq rfl) (by decide) (fun v123 T123 h123 X123 q123 => ?_)
    obtain ⟨rb123, rfl, kb123, Kc123, Fb123⟩ := q123
    have ne124 : rb1 ≠ rb123 := Nat.ne_of_lt (Nat.lt_of_lt_of_le F120.lt kb123)
    have ne125 : rb77 ≠ rb123 := Nat.ne_of_lt (Nat.lt_of_lt_of_le F121.lt kb123)
    have ne126 : b80 ≠ rb123 := Nat.ne_of_lt (Nat.lt_of_lt_of_le F122.lt kb123)
    have ne127 : rb116 ≠ rb123 := Nat.ne_of_lt (Nat.lt_of_lt_of_le Fb116.lt kb123)
    have F128 := F120.keep Kc123 nin0
    have F129 := F121.keep Kc123 nin0
    have F130 := F122.keep Kc123 nin0
    have F131 := Fb116.keep Kc123 nin0
    have gb123 : n0 ≤ rb123 := Nat.le_trans X116.size kb123
    refine w_astore (pc' := 199) (L' := #[.val (.long x0), .second, .val (.long x1), .second, .val (.long x2), .second, .val (.long x3), .second, .val (.int mode), .val (.int (1 : Int32)), .val (.ref rb1), .val (.ref rb77), .val (.ref b80), .val (.ref rb116), .val (.ref rb123), .unset, .unset]) X123 at_197 rfl rfl rfl ?_
    refine w_iload (pc' := 201) X123 at_199 rfl rfl ?_
    refine w_if_ne (pc1 := 218) (pc2 := 204) X123 at_201 (by decide) (fun (hc201 : (1 : Int32) ≠ (0 : Int32)) => ?_) (fun (hc201 : (1 : Int32) = (0 : Int32)) => absurd hc201 (by decide))
    refine w_iload (pc' := 220) X123 at_218 rfl rfl ?_
    refine w_iconst (pc' := 221) (z := (2 : Int32)) X123 at_220 rfl rfl ?_
    refine w_icmp_ne (pc1 := 231) (pc2 := 224) X123 at_221 (by decide) (fun (hc221 : (1 : Int32) ≠ (2 : Int32)) => ?_) (fun (hc221 : (1 : Int32) = (2 : Int32)) => absurd hc221 (by decide))
    refine w_aload (pc' := 233) X123 at_231 rfl rfl rfl ?_
    refine w_astore (pc' := 235) (L' := #[.val (.long x0), .second, .val (.long x1), .second, .val (.long x2), .second, .val (.long x3), .second, .val (.int mode), .val (.int (1 : Int32)), .val (.ref rb1), .val (.ref rb77), .val (.ref b80), .val (.ref rb116), .val (.ref rb123), .val (.ref rb1), .unset]) X123 at_233 rfl rfl rfl ?_
    refine w_aload (pc' := 237) X123 at_235 rfl rfl rfl ?_
    refine w_aload (pc' := 239) X123 at_237 rfl rfl rfl ?_
    refine w_aload (pc' := 241) X123 at_239 rfl rfl rfl ?_
    refine w_callS (pc' := 244) (wd := 0) (argsL := [(.ref rb1), (.ref rb1), (.ref rb77)]) (rest := []) (Q2 := (rm3_Q Z rb1 rb1 rb77 (own_A x0 x1 x2 x3) (own_A x0 x1 x2 x3) (own_B x0 x1 x2 x3) h123 n0)) X123 at_241 (hw _ (List.mem_of_getElem? (i := 12) rfl)) (hw _ (List.mem_of_getElem? (i := 13) rfl)) (hw _ (List.mem_of_getElem? (i := 14) rfl)) (hw _ (List.mem_of_getElem? (i := 15) rfl)) (by decide) (rm3 l Z a0 hw [] rb1 rb1 rb77 (own_A x0 x1 x2 x3) (own_A x0 x1 x2 x3) (own_B x0 x1 x2 x3) h123 n0 X123.size F128 F128 F129 gb1) pd_283 rfl rfl rfl (Nat.le_of_eq rfl) (by decide) (fun v132 T132 h132 X132 q132 => ?_)
    obtain ⟨rfl, Kc132, Fc132⟩ := q132
    have F133 := F129.keep Kc132 (ninS (Ne.symm ne78) nin0)
    have F134 := F130.keep Kc132 (ninS (Ne.symm ne81) nin0)
    have F135 := F131.keep Kc132 (ninS (Ne.symm ne117) nin0)
    have F136 := Fb123.keep Kc132 (ninS (Ne.symm ne124) nin0)
    refine w_aload (pc' := 246) X132 at_244 rfl rfl rfl ?_
    refine w_aload (pc' := 248) X132 at_246 rfl rfl rfl ?_
    refine w_callS (pc' := 251) (wd := 0) (argsL := [(.ref rb1), (.ref b80)]) (rest := []) (Q2 := (rm4_Q Z rb1 b80 (fun j => (own_A x0 x1 x2 x3) j + (own_B x0 x1 x2 x3) j) h132 n0)) X132 at_248 (hw _ (List.mem_of_getElem? (i := 16) rfl)) (hw _ (List.mem_of_getElem? (i := 17) rfl)) (hw _ (List.mem_of_getElem? (i := 2) rfl)) (hw _ (List.mem_of_getElem? (i := 18) rfl)) (by decide) (rm4 l Z a0 hw [] rb1 b80 (fun j => (own_A x0 x1 x2 x3) j + (own_B x0 x1 x2 x3) j) h132 n0 X132.size Fc132 F134) pd_284 rfl rfl rfl (Nat.le_of_eq rfl) (by decide) (fun v137 T137 h137 X137 q137 => ?_)
    obtain ⟨rfl, rfl⟩ := q137
    refine w_istore (pc' := 253) (L' := #[.val (.long x0), .second, .val (.long x1), .second, .val (.long x2), .second, .val (.long x3), .second, .val (.int mode), .val (.int (1 : Int32)), .val (.ref rb1), .val (.ref rb77), .val (.ref b80), .val (.ref rb116), .val (.ref rb123), .val (.ref rb1), .val (.int (1 : Int32))]) X137 at_251 rfl rfl ?_
    refine w_iload (pc' := 255) X137 at_253 rfl rfl ?_
    refine w_if_ne (pc1 := 290) (pc2 := 258) X137 at_255 (by decide) (fun (hc255 : (1 : Int32) ≠ (0 : Int32)) => ?_) (fun (hc255 : (1 : Int32) = (0 : Int32)) => absurd hc255 (by decide))
    refine w_iload (pc' := 292) X137 at_290 rfl rfl ?_
    refine w_iconst (pc' := 293) (z := (1 : Int32)) X137 at_292 rfl rfl ?_
    refine w_icmp_ne (pc1 := 318) (pc2 := 296) X137 at_293 (by decide) (fun (hc293 : (1 : Int32) ≠ (1 : Int32)) => absurd hc293 (by decide)) (fun (hc293 : (1 : Int32) = (1 : Int32)) => ?_)
    refine w_iload (pc' := 298) X137 at_296 rfl rfl ?_
    refine w_if_eq (pc1 := 315) (pc2 := 301) X137 at_298 (by decide) (fun (hc298 : (1 : Int32) = (0 : Int32)) => absurd hc298 (by decide)) (fun (hc298 : (1 : Int32) ≠ (0 : Int32)) => ?_)
    refine w_aload (pc' := 303) X137 at_301 rfl rfl rfl ?_
    refine w_aload (pc' := 305) X137 at_303 rfl rfl rfl ?_
    refine w_callS (pc' := 308) (wd := 0) (argsL := [(.ref rb77), (.ref rb123)]) (rest := []) (Q2 := (rm4_Q Z rb77 rb123 (own_B x0 x1 x2 x3) h132 n0)) X137 at_305 (hw _ (List.mem_of_getElem? (i := 16) rfl)) (hw _ (List.mem_of_getElem? (i := 17) rfl)) (hw _ (List.mem_of_getElem? (i := 2) rfl)) (hw _ (List.mem_of_getElem? (i := 18) rfl)) (by decide) (rm4 l Z a0 hw [] rb77 rb123 (own_B x0 x1 x2 x3) h132 n0 X137.size F133 F136) pd_284 rfl rfl rfl (Nat.le_of_eq rfl) (by decide) (fun v138 T138 h138 X138 q138 => ?_)
    obtain ⟨rfl, rfl⟩ := q138
    refine w_if_eq (pc1 := 315) (pc2 := 311) X138 at_308 (by decide) (fun (hc308 : (1 : Int32) = (0 : Int32)) => absurd hc308 (by decide)) (fun (hc308 : (1 : Int32) ≠ (0 : Int32)) => ?_)
    refine w_iconst (pc' := 312) (z := (1 : Int32)) X138 at_311 rfl rfl ?_
    refine w_goto (pc' := 316) X138 at_312 (by decide) ?_
    refine w_istore (pc' := 318) (L' := #[.val (.long x0), .second, .val (.long x1), .second, .val (.long x2), .second, .val (.long x3), .second, .val (.int mode), .val (.int (1 : Int32)), .val (.ref rb1), .val (.ref rb77), .val (.ref b80), .val (.ref rb116), .val (.ref rb123), .val (.ref rb1), .val (.int (1 : Int32))]) X138 at_316 rfl rfl ?_
    refine w_iload (pc' := 320) X138 at_318 rfl rfl ?_
    refine w_iconst (pc' := 321) (z := (2 : Int32)) X138 at_320 rfl rfl ?_
    refine w_icmp_ne (pc1 := 346) (pc2 := 324) X138 at_321 (by decide) (fun (hc321 : (1 : Int32) ≠ (2 : Int32)) => ?_) (fun (hc321 : (1 : Int32) = (2 : Int32)) => absurd hc321 (by decide))
    refine w_iload (pc' := 348) X138 at_346 rfl rfl ?_
    exact w_nreturn (t := .boolean) X138 at_348 rfl (by simp) (rfl)
  · rw [hm]
    refine w_iload (pc' := 19) X1 at_17 rfl rfl ?_
    refine w_iconst (pc' := 20) (z := (3 : Int32)) X1 at_19 rfl rfl ?_
    refine w_icmp_ne (pc1 := 28) (pc2 := 23) X1 at_20 (by decide) (fun (hc20 : (2 : Int32) ≠ (3 : Int32)) => ?_) (fun (hc20 : (2 : Int32) = (3 : Int32)) => absurd hc20 (by decide))
    refine w_lloadN (pc' := 29) X1 at_28 rfl rfl ?_
    refine w_lloadN (pc' := 30) X1 at_29 rfl rfl ?_
    refine w_lload (pc' := 32) X1 at_30 rfl rfl ?_
    refine w_lload (pc' := 34) X1 at_32 rfl rfl ?_
    refine w_callS (pc' := 37) (wd := 0) (argsL := [(.long x0), (.long x1), (.long x2), (.long x3)]) (rest := []) (Q2 := (rm2_Q Z x0 x1 x2 x3 h1 n0)) X1 at_34 (hw _ (List.mem_of_getElem? (i := 7) rfl)) (hw _ (List.mem_of_getElem? (i := 8) rfl)) (hw _ (List.mem_of_getElem? (i := 2) rfl)) (hw _ (List.mem_of_getElem? (i := 9) rfl)) (by decide) (rm2 l Z a0 hw [] x0 x1 x2 x3 h1 n0 X1.size) pd_282 rfl rfl rfl (Nat.le_of_eq rfl) (by decide) (fun v139 T139 h139 X139 q139 => ?_)
    obtain ⟨rb139, rfl, kb139, Kc139, Fb139⟩ := q139
    have ne140 : rb1 ≠ rb139 := Nat.ne_of_lt (Nat.lt_of_lt_of_le Fb1.lt kb139)
    have F141 := Fb1.keep Kc139 nin0
    have gb139 : n0 ≤ rb139 := Nat.le_trans X1.size kb139
    refine w_astore (pc' := 39) (L' := #[.val (.long x0), .second, .val (.long x1), .second, .val (.long x2), .second, .val (.long x3), .second, .val (.int mode), .val (.int (2 : Int32)), .val (.ref rb1), .val (.ref rb139), .unset, .unset, .unset, .unset, .unset]) X139 at_37 rfl rfl rfl ?_
    refine w_bipush (pc' := 41) (z := (10 : Int32)) X139 at_39 rfl rfl ?_
    refine w_newarray (pc' := 43) (n := 10) (cap := 10) X139 at_41 (hw _ (List.mem_of_getElem? (i := 4) rfl)) rfl (by decide) (by decide) (fun T142 h142 b142 X142 E142 q142 g142 F142 => ?_)
    have ne143 : rb1 ≠ b142 := ne_size q142 F141.lt
    have ne144 : rb139 ≠ b142 := ne_size q142 Fb139.lt
    have F145 := F141.ext E142
    have F146 := Fb139.ext E142
    refine w_dup (pc' := 44) X142 at_43 rfl rfl ?_
    refine w_iconst (pc' := 45) (z := (0 : Int32)) X142 at_44 rfl rfl ?_
    refine w_aload (pc' := 47) X142 at_45 rfl rfl rfl ?_
    refine w_iconst (pc' := 48) (z := (0 : Int32)) X142 at_47 rfl rfl ?_
    refine w_laload (pc' := 49) (i := 0) (v := (.long (own_A x0 x1 x2 x3 0))) X142 F145 at_48 rfl (by decide) rfl rfl ?_
    refine w_aload (pc' := 51) X142 at_49 rfl rfl rfl ?_
    refine w_iconst (pc' := 52) (z := (0 : Int32)) X142 at_51 rfl rfl ?_
    refine w_laload (pc' := 53) (i := 0) (v := (.long (own_B x0 x1 x2 x3 0))) X142 F146 at_52 rfl (by decide) rfl rfl ?_
    refine w_ladd (pc' := 54) X142 at_53 rfl ?_
    refine w_lastore (pc' := 55) (i := 0) X142 F142 at_54 rfl (by decide) rfl g142 (fun T147 h147 X147 W147 => ?_)
    have F148 := F145.other W147 ne143
    have F149 := F146.other W147 ne144
    have F147 := F142.set W147
    refine w_dup (pc' := 56) X147 at_55 rfl rfl ?_
    refine w_iconst (pc' := 57) (z := (1 : Int32)) X147 at_56 rfl rfl ?_
    refine w_aload (pc' := 59) X147 at_57 rfl rfl rfl ?_
    refine w_iconst (pc' := 60) (z := (1 : Int32)) X147 at_59 rfl rfl ?_
    refine w_laload (pc' := 61) (i := 1) (v := (.long (own_A x0 x1 x2 x3 1))) X147 F148 at_60 rfl (by decide) rfl rfl ?_
    refine w_aload (pc' := 63) X147 at_61 rfl rfl rfl ?_
    refine w_iconst (pc' := 64) (z := (1 : Int32)) X147 at_63 rfl rfl ?_
    refine w_laload (pc' := 65) (i := 1) (v := (.long (own_B x0 x1 x2 x3 1))) X147 F149 at_64 rfl (by decide) rfl rfl ?_
    refine w_ladd (pc' := 66) X147 at_65 rfl ?_
    refine w_lastore (pc' := 67) (i := 1) X147 F147 at_66 rfl (by decide) rfl g142 (fun T150 h150 X150 W150 => ?_)
    have F151 := F148.other W150 ne143
    have F152 := F149.other W150 ne144
    have F150 := F147.set W150
    refine w_dup (pc' := 68) X150 at_67 rfl rfl ?_
    refine w_iconst (pc' := 69) (z := (2 : Int32)) X150 at_68 rfl rfl ?_
    refine w_aload (pc' := 71) X150 at_69 rfl rfl rfl ?_
    refine w_iconst (pc' := 72) (z := (2 : Int32)) X150 at_71 rfl rfl ?_
    refine w_laload (pc' := 73) (i := 2) (v := (.long (own_A x0 x1 x2 x3 2))) X150 F151 at_72 rfl (by decide) rfl rfl ?_
    refine w_aload (pc' := 75) X150 at_73 rfl rfl rfl ?_
    refine w_iconst (pc' := 76) (z := (2 : Int32)) X150 at_75 rfl rfl ?_
    refine w_laload (pc' := 77) (i := 2) (v := (.long (own_B x0 x1 x2 x3 2))) X150 F152 at_76 rfl (by decide) rfl rfl ?_
    refine w_ladd (pc' := 78) X150 at_77 rfl ?_
    refine w_lastore (pc' := 79) (i := 2) X150 F150 at_78 rfl (by decide) rfl g142 (fun T153 h153 X153 W153 => ?_)
    have F154 := F151.other W153 ne143
    have F155 := F152.other W153 ne144
    have F153 := F150.set W153
    refine w_dup (pc' := 80) X153 at_79 rfl rfl ?_
    refine w_iconst (pc' := 81) (z := (3 : Int32)) X153 at_80 rfl rfl ?_
    refine w_aload (pc' := 83) X153 at_81 rfl rfl rfl ?_
    refine w_iconst (pc' := 84) (z := (3 : Int32)) X153 at_83 rfl rfl ?_
    refine w_laload (pc' := 85) (i := 3) (v := (.long (own_A x0 x1 x2 x3 3))) X153 F154 at_84 rfl (by decide) rfl rfl ?_
    refine w_aload (pc' := 87) X153 at_85 rfl rfl rfl ?_
    refine w_iconst (pc' := 88) (z := (3 : Int32)) X153 at_87 rfl rfl ?_
    refine w_laload (pc' := 89) (i := 3) (v := (.long (own_B x0 x1 x2 x3 3))) X153 F155 at_88 rfl (by decide) rfl rfl ?_
    refine w_ladd (pc' := 90) X153 at_89 rfl ?_
    refine w_lastore (pc' := 91) (i := 3) X153 F153 at_90 rfl (by decide) rfl g142 (fun T156 h156 X156 W156 => ?_)
    have F157 := F154.other W156 ne143
    have F158 := F155.other W156 ne144
    have F156 := F153.set W156
    refine w_dup (pc' := 92) X156 at_91 rfl rfl ?_
    refine w_iconst (pc' := 93) (z := (4 : Int32)) X156 at_92 rfl rfl ?_
    refine w_aload (pc' := 95) X156 at_93 rfl rfl rfl ?_
    refine w_iconst (pc' := 96) (z := (4 : Int32)) X156 at_95 rfl rfl ?_
    refine w_laload (pc' := 97) (i := 4) (v := (.long (own_A x0 x1 x2 x3 4))) X156 F157 at_96 rfl (by decide) rfl rfl ?_
    refine w_aload (pc' := 99) X156 at_97 rfl rfl rfl ?_
    refine w_iconst (pc' := 100) (z := (4 : Int32)) X156 at_99 rfl rfl ?_
    refine w_laload (pc' := 101) (i := 4) (v := (.long (own_B x0 x1 x2 x3 4))) X156 F158 at_100 rfl (by decide) rfl rfl ?_
    refine w_ladd (pc' := 102) X156 at_101 rfl ?_
    refine w_lastore (pc' := 103) (i := 4) X156 F156 at_102 rfl (by decide) rfl g142 (fun T159 h159 X159 W159 => ?_)
    have F160 := F157.other W159 ne143
    have F161 := F158.other W159 ne144
    have F159 := F156.set W159
    refine w_dup (pc' := 104) X159 at_103 rfl rfl ?_
    refine w_iconst (pc' := 105) (z := (5 : Int32)) X159 at_104 rfl rfl ?_
    refine w_aload (pc' := 107) X159 at_105 rfl rfl rfl ?_
    refine w_iconst (pc' := 108) (z := (5 : Int32)) X159 at_107 rfl rfl ?_
    refine w_laload (pc' := 109) (i := 5) (v := (.long (own_A x0 x1 x2 x3 5))) X159 F160 at_108 rfl (by decide) rfl rfl ?_
    refine w_aload (pc' := 111) X159 at_109 rfl rfl rfl ?_
    refine w_iconst (pc' := 112) (z := (5 : Int32)) X159 at_111 rfl rfl ?_
    refine w_laload (pc' := 113) (i := 5) (v := (.long (own_B x0 x1 x2 x3 5))) X159 F161 at_112 rfl (by decide) rfl rfl ?_
    refine w_ladd (pc' := 114) X159 at_113 rfl ?_
    refine w_lastore (pc' := 115) (i := 5) X159 F159 at_114 rfl (by decide) rfl g142 (fun T162 h162 X162 W162 => ?_)
    have F163 := F160.other W162 ne143
    have F164 := F161.other W162 ne144
    have F162 := F159.set W162
    refine w_dup (pc' := 116) X162 at_115 rfl rfl ?_
    refine w_bipush (pc' := 118) (z := (6 : Int32)) X162 at_116 rfl rfl ?_
    refine w_aload (pc' := 120) X162 at_118 rfl rfl rfl ?_
    refine w_bipush (pc' := 122) (z := (6 : Int32)) X162 at_120 rfl rfl ?_
    refine w_laload (pc' := 123) (i := 6) (v := (.long (own_A x0 x1 x2 x3 6))) X162 F163 at_122 rfl (by decide) rfl rfl ?_
    refine w_aload (pc' := 125) X162 at_123 rfl rfl rfl ?_
    refine w_bipush (pc' := 127) (z := (6 : Int32)) X162 at_125 rfl rfl ?_
    refine w_laload (pc' := 128) (i := 6) (v := (.long (own_B x0 x1 x2 x3 6))) X162 F164 at_127 rfl (by decide) rfl rfl ?_
    refine w_ladd (pc' := 129) X162 at_128 rfl ?_
    refine w_lastore (pc' := 130) (i := 6) X162 F162 at_129 rfl (by decide) rfl g142 (fun T165 h165 X165 W165 => ?_)
    have F166 := F163.other W165 ne143
    have F167 := F164.other W165 ne144
    have F165 := F162.set W165
    refine w_dup (pc' := 131) X165 at_130 rfl rfl ?_
    refine w_bipush (pc' := 133) (z := (7 : Int32)) X165 at_131 rfl rfl ?_
    refine w_aload (pc' := 135) X165 at_133 rfl rfl rfl ?_
    refine w_bipush (pc' := 137) (z := (7 : Int32)) X165 at_135 rfl rfl ?_
    refine w_laload (pc' := 138) (i := 7) (v := (.long (own_A x0 x1 x2 x3 7))) X165 F166 at_137 rfl (by decide) rfl rfl ?_
    refine w_aload (pc' := 140) X165 at_138 rfl rfl rfl ?_
    refine w_bipush (pc' := 142) (z := (7 : Int32)) X165 at_140 rfl rfl ?_
    refine w_laload (pc' := 143) (i := 7) (v := (.long (own_B x0 x1 x2 x3 7))) X165 F167 at_142 rfl (by decide) rfl rfl ?_
    refine w_ladd (pc' := 144) X165 at_143 rfl ?_
    refine w_lastore (pc' := 145) (i := 7) X165 F165 at_144 rfl (by decide) rfl g142 (fun T168 h168 X168 W168 => ?_)
    have F169 := F166.other W168 ne143
    have F170 := F167.other W168 ne144
    have F168 := F165.set W168
    refine w_dup (pc' := 146) X168 at_145 rfl rfl ?_
    refine w_bipush (pc' := 148) (z := (8 : Int32)) X168 at_146 rfl rfl ?_
    refine w_aload (pc' := 150) X168 at_148 rfl rfl rfl ?_
    refine w_bipush (pc' := 152) (z := (8 : Int32)) X168 at_150 rfl rfl ?_
    refine w_laload (pc' := 153) (i := 8) (v := (.long (own_A x0 x1 x2 x3 8))) X168 F169 at_152 rfl (by decide) rfl rfl ?_
    refine w_aload (pc' := 155) X168 at_153 rfl rfl rfl ?_
    refine w_bipush (pc' := 157) (z := (8 : Int32)) X168 at_155 rfl rfl ?_
    refine w_laload (pc' := 158) (i := 8) (v := (.long (own_B x0 x1 x2 x3 8))) X168 F170 at_157 rfl (by decide) rfl rfl ?_
    refine w_ladd (pc' := 159) X168 at_158 rfl ?_
    refine w_lastore (pc' := 160) (i := 8) X168 F168 at_159 rfl (by decide) rfl g142 (fun T171 h171 X171 W171 => ?_)
    have F172 := F169.other W171 ne143
    have F173 := F170.other W171 ne144
    have F171 := F168.set W171
    refine w_dup (pc' := 161) X171 at_160 rfl rfl ?_
    refine w_bipush (pc' := 163) (z := (9 : Int32)) X171 at_161 rfl rfl ?_
    refine w_aload (pc' := 165) X171 at_163 rfl rfl rfl ?_
    refine w_bipush (pc' := 167) (z := (9 : Int32)) X171 at_165 rfl rfl ?_
    refine w_laload (pc' := 168) (i := 9) (v := (.long (own_A x0 x1 x2 x3 9))) X171 F172 at_167 rfl (by decide) rfl rfl ?_
    refine w_aload (pc' := 170) X171 at_168 rfl rfl rfl ?_
    refine w_bipush (pc' := 172) (z := (9 : Int32)) X171 at_170 rfl rfl ?_
    refine w_laload (pc' := 173) (i := 9) (v := (.long (own_B x0 x1 x2 x3 9))) X171 F173 at_172 rfl (by decide) rfl rfl ?_
    refine w_ladd (pc' := 174) X171 at_173 rfl ?_
    refine w_lastore (pc' := 175) (i := 9) X171 F171 at_174 rfl (by decide) rfl g142 (fun T174 h174 X174 W174 => ?_)
    have F175 := F172.other W174 ne143
    have F176 := F173.other W174 ne144
    have F174 := F171.set W174
    have Fe177 : AF Z h174 b142 .long 10 (fun j => .long ((own_A x0 x1 x2 x3) j + (own_B x0 x1 x2 x3) j)) := F174.congr (by
      intro j hj
      match j, hj with
      | 0, _ => rfl
      | 1, _ => rfl
      | 2, _ => rfl
      | 3, _ => rfl
      | 4, _ => rfl
      | 5, _ => rfl
      | 6, _ => rfl
      | 7, _ => rfl
      | 8, _ => rfl
      | 9, _ => rfl
      | _ + 10, hj => exact absurd hj (by omega))
    refine w_astore (pc' := 177) (L' := #[.val (.long x0), .second, .val (.long x1), .second, .val (.long x2), .second, .val (.long x3), .second, .val (.int mode), .val (.int (2 : Int32)), .val (.ref rb1), .val (.ref rb139), .val (.ref b142), .unset, .unset, .unset, .unset]) X174 at_175 rfl rfl rfl ?_
    refine w_lloadN (pc' := 178) X174 at_177 rfl rfl ?_
    refine w_lloadN (pc' := 179) X174 at_178 rfl rfl ?_
    refine w_lload (pc' := 181) X174 at_179 rfl rfl ?_
    refine w_lload (pc' := 183) X174 at_181 rfl rfl ?_
    refine w_callS (pc' := 186) (wd := 0) (argsL := [(.long x0), (.long x1), (.long x2), (.long x3)]) (rest := []) (Q2 := (rm1_Q Z x0 x1 x2 x3 h174 n0)) X174 at_183 (hw _ (List.mem_of_getElem? (i := 0) rfl)) (hw _ (List.mem_of_getElem? (i := 1) rfl)) (hw _ (List.mem_of_getElem? (i := 2) rfl)) (hw _ (List.mem_of_getElem? (i := 3) rfl)) (by decide) (rm1 l Z a0 hw [] x0 x1 x2 x3 h174 n0 X174.size) pd_282 rfl rfl rfl (Nat.le_of_eq rfl) (by decide) (fun v178 T178 h178 X178 q178 => ?_)
    obtain ⟨rb178, rfl, kb178, Kc178, Fb178⟩ := q178
    have ne179 : rb1 ≠ rb178 := Nat.ne_of_lt (Nat.lt_of_lt_of_le F175.lt kb178)
    have ne180 : rb139 ≠ rb178 := Nat.ne_of_lt (Nat.lt_of_lt_of_le F176.lt kb178)
    have ne181 : b142 ≠ rb178 := Nat.ne_of_lt (Nat.lt_of_lt_of_le Fe177.lt kb178)
    have F182 := F175.keep Kc178 nin0
    have F183 := F176.keep Kc178 nin0
    have F184 := Fe177.keep Kc178 nin0
    have gb178 : n0 ≤ rb178 := Nat.le_trans X174.size kb178
    refine w_astore (pc' := 188) (L' := #[.val (.long x0), .second, .val (.long x1), .second, .val (.long x2), .second, .val (.long x3), .second, .val (.int mode), .val (.int (2 : Int32)), .val (.ref rb1), .val (.ref rb139), .val (.ref b142), .val (.ref rb178), .unset, .unset, .unset]) X178 at_186 rfl rfl rfl ?_
    refine w_lloadN (pc' := 189) X178 at_188 rfl rfl ?_
    refine w_lloadN (pc' := 190) X178 at_189 rfl rfl ?_
    refine w_lload (pc' := 192) X178 at_190 rfl rfl ?_
    refine w_lload (pc' := 194) X178 at_192 rfl rfl ?_
    refine w_callS (pc' := 197) (wd := 0) (argsL := [(.long x0), (.long x1), (.long x2), (.long x3)]) (rest := []) (Q2 := (rm2_Q Z x0 x1 x2 x3 h178 n0)) X178 at_194 (hw _ (List.mem_of_getElem? (i := 7) rfl)) (hw _ (List.mem_of_getElem? (i := 8) rfl)) (hw _ (List.mem_of_getElem? (i := 2) rfl)) (hw _ (List.mem_of_getElem? (i := 9) rfl)) (by decide) (rm2 l Z a0 hw [] x0 x1 x2 x3 h178 n0 X178.size) pd_282 rfl rfl rfl (Nat.le_of_eq rfl) (by decide) (fun v185 T185 h185 X185 q185 => ?_)
    obtain ⟨rb185, rfl, kb185, Kc185, Fb185⟩ := q185
    have ne186 : rb1 ≠ rb185 := Nat.ne_of_lt (Nat.lt_of_lt_of_le F182.lt kb185)
    have ne187 : rb139 ≠ rb185 := Nat.ne_of_lt (Nat.lt_of_lt_of_le F183.lt kb185)
    have ne188 : b142 ≠ rb185 := Nat.ne_of_lt (Nat.lt_of_lt_of_le F184.lt kb185)
    have ne189 : rb178 ≠ rb185 := Nat.ne_of_lt (Nat.lt_of_lt_of_le Fb178.lt kb185)
    have F190 := F182.keep Kc185 nin0
    have F191 := F183.keep Kc185 nin0
    have F192 := F184.keep Kc185 nin0
    have F193 := Fb178.keep Kc185 nin0
    have gb185 : n0 ≤ rb185 := Nat.le_trans X178.size kb185
    refine w_astore (pc' := 199) (L' := #[.val (.long x0), .second, .val (.long x1), .second, .val (.long x2), .second, .val (.long x3), .second, .val (.int mode), .val (.int (2 : Int32)), .val (.ref rb1), .val (.ref rb139), .val (.ref b142), .val (.ref rb178), .val (.ref rb185), .unset, .unset]) X185 at_197 rfl rfl rfl ?_
    refine w_iload (pc' := 201) X185 at_199 rfl rfl ?_
    refine w_if_ne (pc1 := 218) (pc2 := 204) X185 at_201 (by decide) (fun (hc201 : (2 : Int32) ≠ (0 : Int32)) => ?_) (fun (hc201 : (2 : Int32) = (0 : Int32)) => absurd hc201 (by decide))
    refine w_iload (pc' := 220) X185 at_218 rfl rfl ?_
    refine w_iconst (pc' := 221) (z := (2 : Int32)) X185 at_220 rfl rfl ?_
    refine w_icmp_ne (pc1 := 231) (pc2 := 224) X185 at_221 (by decide) (fun (hc221 : (2 : Int32) ≠ (2 : Int32)) => absurd hc221 (by decide)) (fun (hc221 : (2 : Int32) = (2 : Int32)) => ?_)
    refine w_aload (pc' := 226) X185 at_224 rfl rfl rfl ?_
    refine w_astore (pc' := 228) (L' := #[.val (.long x0), .second, .val (.long x1), .second, .val (.long x2), .second, .val (.long x3), .second, .val (.int mode), .val (.int (2 : Int32)), .val (.ref rb1), .val (.ref rb139), .val (.ref b142), .val (.ref rb178), .val (.ref rb185), .val (.ref rb139), .unset]) X185 at_226 rfl rfl rfl ?_
    refine w_goto (pc' := 235) X185 at_228 (by decide) ?_
    refine w_aload (pc' := 237) X185 at_235 rfl rfl rfl ?_
    refine w_aload (pc' := 239) X185 at_237 rfl rfl rfl ?_
    refine w_aload (pc' := 241) X185 at_239 rfl rfl rfl ?_
    refine w_callS (pc' := 244) (wd := 0) (argsL := [(.ref rb139), (.ref rb1), (.ref rb139)]) (rest := []) (Q2 := (rm3_Q Z rb139 rb1 rb139 (own_B x0 x1 x2 x3) (own_A x0 x1 x2 x3) (own_B x0 x1 x2 x3) h185 n0)) X185 at_241 (hw _ (List.mem_of_getElem? (i := 12) rfl)) (hw _ (List.mem_of_getElem? (i := 13) rfl)) (hw _ (List.mem_of_getElem? (i := 14) rfl)) (hw _ (List.mem_of_getElem? (i := 15) rfl)) (by decide) (rm3 l Z a0 hw [] rb139 rb1 rb139 (own_B x0 x1 x2 x3) (own_A x0 x1 x2 x3) (own_B x0 x1 x2 x3) h185 n0 X185.size F191 F190 F191 gb139) pd_283 rfl rfl rfl (Nat.le_of_eq rfl) (by decide) (fun v194 T194 h194 X194 q194 => ?_)
    obtain ⟨rfl, Kc194, Fc194⟩ := q194
    have F195 := F190.keep Kc194 (ninS ne140 nin0)
    have F196 := F192.keep Kc194 (ninS (Ne.symm ne144) nin0)
    have F197 := F193.keep Kc194 (ninS (Ne.symm ne180) nin0)
    have F198 := Fb185.keep Kc194 (ninS (Ne.symm ne187) nin0)
    refine w_aload (pc' := 246) X194 at_244 rfl rfl rfl ?_
    refine w_aload (pc' := 248) X194 at_246 rfl rfl rfl ?_
    refine w_callS (pc' := 251) (wd := 0) (argsL := [(.ref rb139), (.ref b142)]) (rest := []) (Q2 := (rm4_Q Z rb139 b142 (fun j => (own_A x0 x1 x2 x3) j + (own_B x0 x1 x2 x3) j) h194 n0)) X194 at_248 (hw _ (List.mem_of_getElem? (i := 16) rfl)) (hw _ (List.mem_of_getElem? (i := 17) rfl)) (hw _ (List.mem_of_getElem? (i := 2) rfl)) (hw _ (List.mem_of_getElem? (i := 18) rfl)) (by decide) (rm4 l Z a0 hw [] rb139 b142 (fun j => (own_A x0 x1 x2 x3) j + (own_B x0 x1 x2 x3) j) h194 n0 X194.size Fc194 F196) pd_284 rfl rfl rfl (Nat.le_of_eq rfl) (by decide) (fun v199 T199 h199 X199 q199 => ?_)
    obtain ⟨rfl, rfl⟩ := q199
    refine w_istore (pc' := 253) (L' := #[.val (.long x0), .second, .val (.long x1), .second, .val (.long x2), .second, .val (.long x3), .second, .val (.int mode), .val (.int (2 : Int32)), .val (.ref rb1), .val (.ref rb139), .val (.ref b142), .val (.ref rb178), .val (.ref rb185), .val (.ref rb139), .val (.int (1 : Int32))]) X199 at_251 rfl rfl ?_
    refine w_iload (pc' := 255) X199 at_253 rfl rfl ?_
    refine w_if_ne (pc1 := 290) (pc2 := 258) X199 at_255 (by decide) (fun (hc255 : (2 : Int32) ≠ (0 : Int32)) => ?_) (fun (hc255 : (2 : Int32) = (0 : Int32)) => absurd hc255 (by decide))
    refine w_iload (pc' := 292) X199 at_290 rfl rfl ?_
    refine w_iconst (pc' := 293) (z := (1 : Int32)) X199 at_292 rfl rfl ?_
    refine w_icmp_ne (pc1 := 318) (pc2 := 296) X199 at_293 (by decide) (fun (hc293 : (2 : Int32) ≠ (1 : Int32)) => ?_) (fun (hc293 : (2 : Int32) = (1 : Int32)) => absurd hc293 (by decide))
    refine w_iload (pc' := 320) X199 at_318 rfl rfl ?_
    refine w_iconst (pc' := 321) (z := (2 : Int32)) X199 at_320 rfl rfl ?_
    refine w_icmp_ne (pc1 := 346) (pc2 := 324) X199 at_321 (by decide) (fun (hc321 : (2 : Int32) ≠ (2 : Int32)) => absurd hc321 (by decide)) (fun (hc321 : (2 : Int32) = (2 : Int32)) => ?_)
    refine w_iload (pc' := 326) X199 at_324 rfl rfl ?_
    refine w_if_eq (pc1 := 343) (pc2 := 329) X199 at_326 (by decide) (fun (hc326 : (1 : Int32) = (0 : Int32)) => absurd hc326 (by decide)) (fun (hc326 : (1 : Int32) ≠ (0 : Int32)) => ?_)
    refine w_aload (pc' := 331) X199 at_329 rfl rfl rfl ?_
    refine w_aload (pc' := 333) X199 at_331 rfl rfl rfl ?_
    refine w_callS (pc' := 336) (wd := 0) (argsL := [(.ref rb1), (.ref rb178)]) (rest := []) (Q2 := (rm4_Q Z rb1 rb178 (own_A x0 x1 x2 x3) h194 n0)) X199 at_333 (hw _ (List.mem_of_getElem? (i := 16) rfl)) (hw _ (List.mem_of_getElem? (i := 17) rfl)) (hw _ (List.mem_of_getElem? (i := 2) rfl)) (hw _ (List.mem_of_getElem? (i := 18) rfl)) (by decide) (rm4 l Z a0 hw [] rb1 rb178 (own_A x0 x1 x2 x3) h194 n0 X199.size F195 F197) pd_284 rfl rfl rfl (Nat.le_of_eq rfl) (by decide) (fun v200 T200 h200 X200 q200 => ?_)
    obtain ⟨rfl, rfl⟩ := q200
    refine w_if_eq (pc1 := 343) (pc2 := 339) X200 at_336 (by decide) (fun (hc336 : (1 : Int32) = (0 : Int32)) => absurd hc336 (by decide)) (fun (hc336 : (1 : Int32) ≠ (0 : Int32)) => ?_)
    refine w_iconst (pc' := 340) (z := (1 : Int32)) X200 at_339 rfl rfl ?_
    refine w_goto (pc' := 344) X200 at_340 (by decide) ?_
    refine w_istore (pc' := 346) (L' := #[.val (.long x0), .second, .val (.long x1), .second, .val (.long x2), .second, .val (.long x3), .second, .val (.int mode), .val (.int (2 : Int32)), .val (.ref rb1), .val (.ref rb139), .val (.ref b142), .val (.ref rb178), .val (.ref rb185), .val (.ref rb139), .val (.int (1 : Int32))]) X200 at_344 rfl rfl ?_
    refine w_iload (pc' := 348) X200 at_346 rfl rfl ?_
    exact w_nreturn (t := .boolean) X200 at_348 rfl (by simp) (rfl)
  · rw [hm]
    refine w_iload (pc' := 19) X1 at_17 rfl rfl ?_
    refine w_iconst (pc' := 20) (z := (3 : Int32)) X1 at_19 rfl rfl ?_
    refine w_icmp_ne (pc1 := 28) (pc2 := 23) X1 at_20 (by decide) (fun (hc20 : (3 : Int32) ≠ (3 : Int32)) => absurd hc20 (by decide)) (fun (hc20 : (3 : Int32) = (3 : Int32)) => ?_)
    refine w_aload (pc' := 25) X1 at_23 rfl rfl rfl ?_
    refine w_goto (pc' := 37) X1 at_25 (by decide) ?_
    refine w_astore (pc' := 39) (L' := #[.val (.long x0), .second, .val (.long x1), .second, .val (.long x2), .second, .val (.long x3), .second, .val (.int mode), .val (.int (3 : Int32)), .val (.ref rb1), .val (.ref rb1), .unset, .unset, .unset, .unset, .unset]) X1 at_37 rfl rfl rfl ?_
    refine w_bipush (pc' := 41) (z := (10 : Int32)) X1 at_39 rfl rfl ?_
    refine w_newarray (pc' := 43) (n := 10) (cap := 10) X1 at_41 (hw _ (List.mem_of_getElem? (i := 4) rfl)) rfl (by decide) (by decide) (fun T201 h201 b201 X201 E201 q201 g201 F201 => ?_)
    have ne202 : rb1 ≠ b201 := ne_size q201 Fb1.lt
    have F203 := Fb1.ext E201
    refine w_dup (pc' := 44) X201 at_43 rfl rfl ?_
    refine w_iconst (pc' := 45) (z := (0 : Int32)) X201 at_44 rfl rfl ?_
    refine w_aload (pc' := 47) X201 at_45 rfl rfl rfl ?_
    refine w_iconst (pc' := 48) (z := (0 : Int32)) X201 at_47 rfl rfl ?_
    refine w_laload (pc' := 49) (i := 0) (v := (.long (own_A x0 x1 x2 x3 0))) X201 F203 at_48 rfl (by decide) rfl rfl ?_
    refine w_aload (pc' := 51) X201 at_49 rfl rfl rfl ?_
    refine w_iconst (pc' := 52) (z := (0 : Int32)) X201 at_51 rfl rfl ?_
    refine w_laload (pc' := 53) (i := 0) (v := (.long (own_A x0 x1 x2 x3 0))) X201 F203 at_52 rfl (by decide) rfl rfl ?_
    refine w_ladd (pc' := 54) X201 at_53 rfl ?_
    refine w_lastore (pc' := 55) (i := 0) X201 F201 at_54 rfl (by decide) rfl g201 (fun T204 h204 X204 W204 => ?_)
    have F205 := F203.other W204 ne202
    have F204 := F201.set W204
    refine w_dup (pc' := 56) X204 at_55 rfl rfl ?_
    refine w_iconst (pc' := 57) (z := (1 : Int32)) X204 at_56 rfl rfl ?_
    refine w_aload (pc' := 59) X204 at_57 rfl rfl rfl ?_
    refine w_iconst (pc' := 60) (z := (1 : Int32)) X204 at_59 rfl rfl ?_
    refine w_laload (pc' := 61) (i := 1) (v := (.long (own_A x0 x1 x2 x3 1))) X204 F205 at_60 rfl (by decide) rfl rfl ?_
    refine w_aload (pc' := 63) X204 at_61 rfl rfl rfl ?_
    refine w_iconst (pc' := 64) (z := (1 : Int32)) X204 at_63 rfl rfl ?_
    refine w_laload (pc' := 65) (i := 1) (v := (.long (own_A x0 x1 x2 x3 1))) X204 F205 at_64 rfl (by decide) rfl rfl ?_
    refine w_ladd (pc' := 66) X204 at_65 rfl ?_
    refine w_lastore (pc' := 67) (i := 1) X204 F204 at_66 rfl (by decide) rfl g201 (fun T206 h206 X206 W206 => ?_)
    have F207 := F205.other W206 ne202
    have F206 := F204.set W206
    refine w_dup (pc' := 68) X206 at_67 rfl rfl ?_
    refine w_iconst (pc' := 69) (z := (2 : Int32)) X206 at_68 rfl rfl ?_
    refine w_aload (pc' := 71) X206 at_69 rfl rfl rfl ?_
    refine w_iconst (pc' := 72) (z := (2 : Int32)) X206 at_71 rfl rfl ?_
    refine w_laload (pc' := 73) (i := 2) (v := (.long (own_A x0 x1 x2 x3 2))) X206 F207 at_72 rfl (by decide) rfl rfl ?_
    refine w_aload (pc' := 75) X206 at_73 rfl rfl rfl ?_
    refine w_iconst (pc' := 76) (z := (2 : Int32)) X206 at_75 rfl rfl ?_
    refine w_laload (pc' := 77) (i := 2) (v := (.long (own_A x0 x1 x2 x3 2))) X206 F207 at_76 rfl (by decide) rfl rfl ?_
    refine w_ladd (pc' := 78) X206 at_77 rfl ?_
    refine w_lastore (pc' := 79) (i := 2) X206 F206 at_78 rfl (by decide) rfl g201 (fun T208 h208 X208 W208 => ?_)
    have F209 := F207.other W208 ne202
    have F208 := F206.set W208
    refine w_dup (pc' := 80) X208 at_79 rfl rfl ?_
    refine w_iconst (pc' := 81) (z := (3 : Int32)) X208 at_80 rfl rfl ?_
    refine w_aload (pc' := 83) X208 at_81 rfl rfl rfl ?_
    refine w_iconst (pc' := 84) (z := (3 : Int32)) X208 at_83 rfl rfl ?_
    refine w_laload (pc' := 85) (i := 3) (v := (.long (own_A x0 x1 x2 x3 3))) X208 F209 at_84 rfl (by decide) rfl rfl ?_
    refine w_aload (pc' := 87) X208 at_85 rfl rfl rfl ?_
    refine w_iconst (pc' := 88) (z := (3 : Int32)) X208 at_87 rfl rfl ?_
    refine w_laload (pc' := 89) (i := 3) (v := (.long (own_A x0 x1 x2 x3 3))) X208 F209 at_88 rfl (by decide) rfl rfl ?_
    refine w_ladd (pc' := 90) X208 at_89 rfl ?_
    refine w_lastore (pc' := 91) (i := 3) X208 F208 at_90 rfl (by decide) rfl g201 (fun T210 h210 X210 W210 => ?_)
    have F211 := F209.other W210 ne202
    have F210 := F208.set W210
    refine w_dup (pc' := 92) X210 at_91 rfl rfl ?_
    refine w_iconst (pc' := 93) (z := (4 : Int32)) X210 at_92 rfl rfl ?_
    refine w_aload (pc' := 95) X210 at_93 rfl rfl rfl ?_
    refine w_iconst (pc' := 96) (z := (4 : Int32)) X210 at_95 rfl rfl ?_
    refine w_laload (pc' := 97) (i := 4) (v := (.long (own_A x0 x1 x2 x3 4))) X210 F211 at_96 rfl (by decide) rfl rfl ?_
    refine w_aload (pc' := 99) X210 at_97 rfl rfl rfl ?_
    refine w_iconst (pc' := 100) (z := (4 : Int32)) X210 at_99 rfl rfl ?_
    refine w_laload (pc' := 101) (i := 4) (v := (.long (own_A x0 x1 x2 x3 4))) X210 F211 at_100 rfl (by decide) rfl rfl ?_
    refine w_ladd (pc' := 102) X210 at_101 rfl ?_
    refine w_lastore (pc' := 103) (i := 4) X210 F210 at_102 rfl (by decide) rfl g201 (fun T212 h212 X212 W212 => ?_)
    have F213 := F211.other W212 ne202
    have F212 := F210.set W212
    refine w_dup (pc' := 104) X212 at_103 rfl rfl ?_
    refine w_iconst (pc' := 105) (z := (5 : Int32)) X212 at_104 rfl rfl ?_
    refine w_aload (pc' := 107) X212 at_105 rfl rfl rfl ?_
    refine w_iconst (pc' := 108) (z := (5 : Int32)) X212 at_107 rfl rfl ?_
    refine w_laload (pc' := 109) (i := 5) (v := (.long (own_A x0 x1 x2 x3 5))) X212 F213 at_108 rfl (by decide) rfl rfl ?_
    refine w_aload (pc' := 111) X212 at_109 rfl rfl rfl ?_
    refine w_iconst (pc' := 112) (z := (5 : Int32)) X212 at_111 rfl rfl ?_
    refine w_laload (pc' := 113) (i := 5) (v := (.long (own_A x0 x1 x2 x3 5))) X212 F213 at_112 rfl (by decide) rfl rfl ?_
    refine w_ladd (pc' := 114) X212 at_113 rfl ?_
    refine w_lastore (pc' := 115) (i := 5) X212 F212 at_114 rfl (by decide) rfl g201 (fun T214 h214 X214 W214 => ?_)
    have F215 := F213.other W214 ne202
    have F214 := F212.set W214
    refine w_dup (pc' := 116) X214 at_115 rfl rfl ?_
    refine w_bipush (pc' := 118) (z := (6 : Int32)) X214 at_116 rfl rfl ?_
    refine w_aload (pc' := 120) X214 at_118 rfl rfl rfl ?_
    refine w_bipush (pc' := 122) (z := (6 : Int32)) X214 at_120 rfl rfl ?_
    refine w_laload (pc' := 123) (i := 6) (v := (.long (own_A x0 x1 x2 x3 6))) X214 F215 at_122 rfl (by decide) rfl rfl ?_
    refine w_aload (pc' := 125) X214 at_123 rfl rfl rfl ?_
    refine w_bipush (pc' := 127) (z := (6 : Int32)) X214 at_125 rfl rfl ?_
    refine w_laload (pc' := 128) (i := 6) (v := (.long (own_A x0 x1 x2 x3 6))) X214 F215 at_127 rfl (by decide) rfl rfl ?_
    refine w_ladd (pc' := 129) X214 at_128 rfl ?_
    refine w_lastore (pc' := 130) (i := 6) X214 F214 at_129 rfl (by decide) rfl g201 (fun T216 h216 X216 W216 => ?_)
    have F217 := F215.other W216 ne202
    have F216 := F214.set W216
    refine w_dup (pc' := 131) X216 at_130 rfl rfl ?_
    refine w_bipush (pc' := 133) (z := (7 : Int32)) X216 at_131 rfl rfl ?_
    refine w_aload (pc' := 135) X216 at_133 rfl rfl rfl ?_
    refine w_bipush (pc' := 137) (z := (7 : Int32)) X216 at_135 rfl rfl ?_
    refine w_laload (pc' := 138) (i := 7) (v := (.long (own_A x0 x1 x2 x3 7))) X216 F217 at_137 rfl (by decide) rfl rfl ?_
    refine w_aload (pc' := 140) X216 at_138 rfl rfl rfl ?_
    refine w_bipush (pc' := 142) (z := (7 : Int32)) X216 at_140 rfl rfl ?_
    refine w_laload (pc' := 143) (i := 7) (v := (.long (own_A x0 x1 x2 x3 7))) X216 F217 at_142 rfl (by decide) rfl rfl ?_
    refine w_ladd (pc' := 144) X216 at_143 rfl ?_
    refine w_lastore (pc' := 145) (i := 7) X216 F216 at_144 rfl (by decide) rfl g201 (fun T218 h218 X218 W218 => ?_)
    have F219 := F217.other W218 ne202
    have F218 := F216.set W218
    refine w_dup (pc' := 146) X218 at_145 rfl rfl ?_
    refine w_bipush (pc' := 148) (z := (8 : Int32)) X218 at_146 rfl rfl ?_
    refine w_aload (pc' := 150) X218 at_148 rfl rfl rfl ?_
    refine w_bipush (pc' := 152) (z := (8 : Int32)) X218 at_150 rfl rfl ?_
    refine w_laload (pc' := 153) (i := 8) (v := (.long (own_A x0 x1 x2 x3 8))) X218 F219 at_152 rfl (by decide) rfl rfl ?_
    refine w_aload (pc' := 155) X218 at_153 rfl rfl rfl ?_
    refine w_bipush (pc' := 157) (z := (8 : Int32)) X218 at_155 rfl rfl ?_
    refine w_laload (pc' := 158) (i := 8) (v := (.long (own_A x0 x1 x2 x3 8))) X218 F219 at_157 rfl (by decide) rfl rfl ?_
    refine w_ladd (pc' := 159) X218 at_158 rfl ?_
    refine w_lastore (pc' := 160) (i := 8) X218 F218 at_159 rfl (by decide) rfl g201 (fun T220 h220 X220 W220 => ?_)
    have F221 := F219.other W220 ne202
    have F220 := F218.set W220
    refine w_dup (pc' := 161) X220 at_160 rfl rfl ?_
    refine w_bipush (pc' := 163) (z := (9 : Int32)) X220 at_161 rfl rfl ?_
    refine w_aload (pc' := 165) X220 at_163 rfl rfl rfl ?_
    refine w_bipush (pc' := 167) (z := (9 : Int32)) X220 at_165 rfl rfl ?_
    refine w_laload (pc' := 168) (i := 9) (v := (.long (own_A x0 x1 x2 x3 9))) X220 F221 at_167 rfl (by decide) rfl rfl ?_
    refine w_aload (pc' := 170) X220 at_168 rfl rfl rfl ?_
    refine w_bipush (pc' := 172) (z := (9 : Int32)) X220 at_170 rfl rfl ?_
    refine w_laload (pc' := 173) (i := 9) (v := (.long (own_A x0 x1 x2 x3 9))) X220 F221 at_172 rfl (by decide) rfl rfl ?_
    refine w_ladd (pc' := 174) X220 at_173 rfl ?_
    refine w_lastore (pc' := 175) (i := 9) X220 F220 at_174 rfl (by decide) rfl g201 (fun T222 h222 X222 W222 => ?_)
    have F223 := F221.other W222 ne202
    have F222 := F220.set W222
    have Fe224 : AF Z h222 b201 .long 10 (fun j => .long ((own_A x0 x1 x2 x3) j + (own_A x0 x1 x2 x3) j)) := F222.congr (by
      intro j hj
      match j, hj with
      | 0, _ => rfl
      | 1, _ => rfl
      | 2, _ => rfl
      | 3, _ => rfl
      | 4, _ => rfl
      | 5, _ => rfl
      | 6, _ => rfl
      | 7, _ => rfl
      | 8, _ => rfl
      | 9, _ => rfl
      | _ + 10, hj => exact absurd hj (by omega))
    refine w_astore (pc' := 177) (L' := #[.val (.long x0), .second, .val (.long x1), .second, .val (.long x2), .second, .val (.long x3), .second, .val (.int mode), .val (.int (3 : Int32)), .val (.ref rb1), .val (.ref rb1), .val (.ref b201), .unset, .unset, .unset, .unset]) X222 at_175 rfl rfl rfl ?_
    refine w_lloadN (pc' := 178) X222 at_177 rfl rfl ?_
    refine w_lloadN (pc' := 179) X222 at_178 rfl rfl ?_
    refine w_lload (pc' := 181) X222 at_179 rfl rfl ?_
    refine w_lload (pc' := 183) X222 at_181 rfl rfl ?_
    refine w_callS (pc' := 186) (wd := 0) (argsL := [(.long x0), (.long x1), (.long x2), (.long x3)]) (rest := []) (Q2 := (rm1_Q Z x0 x1 x2 x3 h222 n0)) X222 at_183 (hw _ (List.mem_of_getElem? (i := 0) rfl)) (hw _ (List.mem_of_getElem? (i := 1) rfl)) (hw _ (List.mem_of_getElem? (i := 2) rfl)) (hw _ (List.mem_of_getElem? (i := 3) rfl)) (by decide) (rm1 l Z a0 hw [] x0 x1 x2 x3 h222 n0 X222.size) pd_282 rfl rfl rfl (Nat.le_of_eq rfl) (by decide) (fun v225 T225 h225 X225 q225 => ?_)
    obtain ⟨rb225, rfl, kb225, Kc225, Fb225⟩ := q225
    have ne226 : rb1 ≠ rb225 := Nat.ne_of_lt (Nat.lt_of_lt_of_le F223.lt kb225)
    have ne227 : b201 ≠ rb225 := Nat.ne_of_lt (Nat.lt_of_lt_of_le Fe224.lt kb225)
    have F228 := F223.keep Kc225 nin0
    have F229 := Fe224.keep Kc225 nin0
    have gb225 : n0 ≤ rb225 := Nat.le_trans X222.size kb225
    refine w_astore (pc' := 188) (L' := #[.val (.long x0), .second, .val (.long x1), .second, .val (.long x2), .second, .val (.long x3), .second, .val (.int mode), .val (.int (3 : Int32)), .val (.ref rb1), .val (.ref rb1), .val (.ref b201), .val (.ref rb225), .unset, .unset, .unset]) X225 at_186 rfl rfl rfl ?_
    refine w_lloadN (pc' := 189) X225 at_188 rfl rfl ?_
    refine w_lloadN (pc' := 190) X225 at_189 rfl rfl ?_
    refine w_lload (pc' := 192) X225 at_190 rfl rfl ?_
    refine w_lload (pc' := 194) X225 at_192 rfl rfl ?_
    refine w_callS (pc' := 197) (wd := 0) (argsL := [(.long x0), (.long x1), (.long x2), (.long x3)]) (rest := []) (Q2 := (rm2_Q Z x0 x1 x2 x3 h225 n0)) X225 at_194 (hw _ (List.mem_of_getElem? (i := 7) rfl)) (hw _ (List.mem_of_getElem? (i := 8) rfl)) (hw _ (List.mem_of_getElem? (i := 2) rfl)) (hw _ (List.mem_of_getElem? (i := 9) rfl)) (by decide) (rm2 l Z a0 hw [] x0 x1 x2 x3 h225 n0 X225.size) pd_282 rfl rfl rfl (Nat.le_of_eq rfl) (by decide) (fun v230 T230 h230 X230 q230 => ?_)
    obtain ⟨rb230, rfl, kb230, Kc230, Fb230⟩ := q230
    have ne231 : rb1 ≠ rb230 := Nat.ne_of_lt (Nat.lt_of_lt_of_le F228.lt kb230)
    have ne232 : b201 ≠ rb230 := Nat.ne_of_lt (Nat.lt_of_lt_of_le F229.lt kb230)
    have ne233 : rb225 ≠ rb230 := Nat.ne_of_lt (Nat.lt_of_lt_of_le Fb225.lt kb230)
    have F234 := F228.keep Kc230 nin0
    have F235 := F229.keep Kc230 nin0
    have F236 := Fb225.keep Kc230 nin0
    have gb230 : n0 ≤ rb230 := Nat.le_trans X225.size kb230
    refine w_astore (pc' := 199) (L' := #[.val (.long x0), .second, .val (.long x1), .second, .val (.long x2), .second, .val (.long x3), .second, .val (.int mode), .val (.int (3 : Int32)), .val (.ref rb1), .val (.ref rb1), .val (.ref b201), .val (.ref rb225), .val (.ref rb230), .unset, .unset]) X230 at_197 rfl rfl rfl ?_
    refine w_iload (pc' := 201) X230 at_199 rfl rfl ?_
    refine w_if_ne (pc1 := 218) (pc2 := 204) X230 at_201 (by decide) (fun (hc201 : (3 : Int32) ≠ (0 : Int32)) => ?_) (fun (hc201 : (3 : Int32) = (0 : Int32)) => absurd hc201 (by decide))
    refine w_iload (pc' := 220) X230 at_218 rfl rfl ?_
    refine w_iconst (pc' := 221) (z := (2 : Int32)) X230 at_220 rfl rfl ?_
    refine w_icmp_ne (pc1 := 231) (pc2 := 224) X230 at_221 (by decide) (fun (hc221 : (3 : Int32) ≠ (2 : Int32)) => ?_) (fun (hc221 : (3 : Int32) = (2 : Int32)) => absurd hc221 (by decide))
    refine w_aload (pc' := 233) X230 at_231 rfl rfl rfl ?_
    refine w_astore (pc' := 235) (L' := #[.val (.long x0), .second, .val (.long x1), .second, .val (.long x2), .second, .val (.long x3), .second, .val (.int mode), .val (.int (3 : Int32)), .val (.ref rb1), .val (.ref rb1), .val (.ref b201), .val (.ref rb225), .val (.ref rb230), .val (.ref rb1), .unset]) X230 at_233 rfl rfl rfl ?_
    refine w_aload (pc' := 237) X230 at_235 rfl rfl rfl ?_
    refine w_aload (pc' := 239) X230 at_237 rfl rfl rfl ?_
    refine w_aload (pc' := 241) X230 at_239 rfl rfl rfl ?_
    refine w_callS (pc' := 244) (wd := 0) (argsL := [(.ref rb1), (.ref rb1), (.ref rb1)]) (rest := []) (Q2 := (rm3_Q Z rb1 rb1 rb1 (own_A x0 x1 x2 x3) (own_A x0 x1 x2 x3) (own_A x0 x1 x2 x3) h230 n0)) X230 at_241 (hw _ (List.mem_of_getElem? (i := 12) rfl)) (hw _ (List.mem_of_getElem? (i := 13) rfl)) (hw _ (List.mem_of_getElem? (i := 14) rfl)) (hw _ (List.mem_of_getElem? (i := 15) rfl)) (by decide) (rm3 l Z a0 hw [] rb1 rb1 rb1 (own_A x0 x1 x2 x3) (own_A x0 x1 x2 x3) (own_A x0 x1 x2 x3) h230 n0 X230.size F234 F234 F234 gb1) pd_283 rfl rfl rfl (Nat.le_of_eq rfl) (by decide) (fun v237 T237 h237 X237 q237 => ?_)
    obtain ⟨rfl, Kc237, Fc237⟩ := q237
    have F238 := F235.keep Kc237 (ninS (Ne.symm ne202) nin0)
    have F239 := F236.keep Kc237 (ninS (Ne.symm ne226) nin0)
    have F240 := Fb230.keep Kc237 (ninS (Ne.symm ne231) nin0)
    refine w_aload (pc' := 246) X237 at_244 rfl rfl rfl ?_
    refine w_aload (pc' := 248) X237 at_246 rfl rfl rfl ?_
    refine w_callS (pc' := 251) (wd := 0) (argsL := [(.ref rb1), (.ref b201)]) (rest := []) (Q2 := (rm4_Q Z rb1 b201 (fun j => (own_A x0 x1 x2 x3) j + (own_A x0 x1 x2 x3) j) h237 n0)) X237 at_248 (hw _ (List.mem_of_getElem? (i := 16) rfl)) (hw _ (List.mem_of_getElem? (i := 17) rfl)) (hw _ (List.mem_of_getElem? (i := 2) rfl)) (hw _ (List.mem_of_getElem? (i := 18) rfl)) (by decide) (rm4 l Z a0 hw [] rb1 b201 (fun j => (own_A x0 x1 x2 x3) j + (own_A x0 x1 x2 x3) j) h237 n0 X237.size Fc237 F238) pd_284 rfl rfl rfl (Nat.le_of_eq rfl) (by decide) (fun v241 T241 h241 X241 q241 => ?_)
    obtain ⟨rfl, rfl⟩ := q241
    refine w_istore (pc' := 253) (L' := #[.val (.long x0), .second, .val (.long x1), .second, .val (.long x2), .second, .val (.long x3), .second, .val (.int mode), .val (.int (3 : Int32)), .val (.ref rb1), .val (.ref rb1), .val (.ref b201), .val (.ref rb225), .val (.ref rb230), .val (.ref rb1), .val (.int (1 : Int32))]) X241 at_251 rfl rfl ?_
    refine w_iload (pc' := 255) X241 at_253 rfl rfl ?_
    refine w_if_ne (pc1 := 290) (pc2 := 258) X241 at_255 (by decide) (fun (hc255 : (3 : Int32) ≠ (0 : Int32)) => ?_) (fun (hc255 : (3 : Int32) = (0 : Int32)) => absurd hc255 (by decide))
    refine w_iload (pc' := 292) X241 at_290 rfl rfl ?_
    refine w_iconst (pc' := 293) (z := (1 : Int32)) X241 at_292 rfl rfl ?_
    refine w_icmp_ne (pc1 := 318) (pc2 := 296) X241 at_293 (by decide) (fun (hc293 : (3 : Int32) ≠ (1 : Int32)) => ?_) (fun (hc293 : (3 : Int32) = (1 : Int32)) => absurd hc293 (by decide))
    refine w_iload (pc' := 320) X241 at_318 rfl rfl ?_
    refine w_iconst (pc' := 321) (z := (2 : Int32)) X241 at_320 rfl rfl ?_
    refine w_icmp_ne (pc1 := 346) (pc2 := 324) X241 at_321 (by decide) (fun (hc321 : (3 : Int32) ≠ (2 : Int32)) => ?_) (fun (hc321 : (3 : Int32) = (2 : Int32)) => absurd hc321 (by decide))
    refine w_iload (pc' := 348) X241 at_346 rfl rfl ?_
    exact w_nreturn (t := .boolean) X241 at_348 rfl (by simp) (rfl)
set_option maxRecDepth 65536 in
set_option maxHeartbeats 40000000 in
theorem comes_1 {Post : Tables → Env → Array Value → State → Outcome → State → Prop} (hpost : ∀ tb e args s v u, (limb_1_1.after args s (.returned v) u = true ∧ limb_1_2.after args s (.returned v) u = true ∧ True) → FrameEnd s (.returned v) u (Jvm.fieldLocs frame_1_writes args s ++ Jvm.arrayLocs frame_1_arrays args s ++ Jvm.staticLocs frame_1_statics s) 24 192 → Post tb e args s (.returned v) u) :
    ArmFor flags0 classFile x code maxLocals ret World_1 tables_1 room_1 Calls_1 rest_1 Pre_1 Post := by
  intro l hfl _ _ p e ha hc hk s m args below hf hA hF happ hP
  obtain ⟨hcalls, hrest, hpre⟩ := hP
  obtain ⟨-, -, -, hnamed, -, -, -, hat⟩ := (Spec.applies_iff hf).mp happ
  obtain ⟨hg, hn⟩ := and_e (Cond.before_iff.mp (show (Jvm.Cond.and given_1 narrow_1).before args s = true from hpre))
  obtain ⟨ga0, gb0⟩ := and_e hg
  obtain ⟨ga1, gb1⟩ := and_e gb0
  obtain ⟨ga2, gb2⟩ := and_e gb1
  obtain ⟨ga3, gb3⟩ := and_e gb2
  obtain ⟨ga4, gb4⟩ := and_e gb3
  obtain ⟨w0, w1, w2, w3, w4, rfl⟩ : ∃ w0 w1 w2 w3 w4 : Value, args = #[w0, w1, w2, w3, w4] := by
    have hs : args.size = 5 := by simpa [Cond.value, given_1] using ga0
    obtain ⟨L⟩ := args
    match L, hs with
    | [w0, w1, w2, w3, w4], _ => exact ⟨w0, w1, w2, w3, w4, rfl⟩
  have hw := fun d (hd : d ∈ tables_1) => atoms_spec (ws := Jvm.Cond.code x code maxLocals ret :: tables_1) hat d (List.mem_cons_of_mem _ hd)
  obtain ⟨i0, ei0⟩ := isL_v ga1
  obtain rfl : w0 = (.long i0) := Option.some.inj ei0
  obtain ⟨i1, ei1⟩ := isL_v ga2
  obtain rfl : w1 = (.long i1) := Option.some.inj ei1
  obtain ⟨i2, ei2⟩ := isL_v ga3
  obtain rfl : w2 = (.long i2) := Option.some.inj ei2
  obtain ⟨i3, ei3⟩ := isL_v ga4
  obtain rfl : w3 = (.long i3) := Option.some.inj ei3
  obtain ⟨i4, ei4⟩ := is_v gb4
  obtain rfl : w4 = (.int i4) := Option.some.inj ei4
  obtain ⟨n, o, h1, h2, h3, _, L, rfl, ⟨N, -, rfl⟩, hq⟩ := rm0 l s _ hw tables_1 i0 i1 i2 i3 i4 s.heap s.heap.size (Nat.le_refl _) p e ha hc hk s m _ below hf ((Spec.applies_iff_loose hf).mp happ).1 ⟨rfl, State.Warmed39.refl s, rfl⟩ trivial
  refine ⟨n, _, h1, h2, h3, hpost _ _ _ _ _ _ ⟨Cond.after_iff.mpr rfl, Cond.after_iff.mpr (eq_i res_at (Term.int_eval (1)) rfl), trivial⟩ ⟨hq.1, hq.2.1, (hq.2.2.sift fun y hy => Or.inr (N y hy)).mono (by decide) (by decide)⟩⟩
theorem main_1_1 : Claimed_1_1 := comes_1 fun _ _ _ _ _ _ h hF => ⟨h.1, hF⟩
theorem main_1_2 : Claimed_1_2 := comes_1 fun _ _ _ _ _ _ h hF => ⟨h.2.1, hF⟩
end Jvm.Pilot.@@N@@
namespace Jvm.Pilot.@@N@@
open Jvm Jvm.ClassFile Sem Op Lib Jvm.Free Jvm.Stand Jvm.Pilot.@@N@@.Jvm.D
/-! MADE BY PROGRAM (witnessworld.py) out of the Statement's table words and the real class files: 11 classes; the members and pool entries that the words name. The judged class is class 1, her method 5. -/
namespace start1
open Jvm.ClassFile
def u (s : String) : CpInfo := .utf8 (stringToUtf16 s)
/-- a pool by its gaps: so many unusable entries, then the entry; so many at the end -/
def gap : Nat → List CpInfo → List CpInfo
  | 0, r => r
  | n + 1, r => .unusable :: gap n r
def poolList (es : List (Nat × CpInfo)) (last : Nat) : List CpInfo := es.foldr (fun e r => gap e.1 (e.2 :: r)) (gap last [])
def pool (es : List (Nat × CpInfo)) (last : Nat) : Array CpInfo := ⟨poolList es last⟩
def fileOf (pool : Array CpInfo) (this : Nat) (attrs : Array Attribute := #[]) (ms : Array MethodInfo := #[]) (fl : Nat := 33) (sup : Nat := 0) (ifs : Array Nat := #[]) (fds : Array FieldInfo := #[]) : ClassFile where
  minorVersion := 0
  majorVersion := 65
  constantPool := pool
  accessFlags := fl
  thisClass := this
  superClass := sup
  interfaces := ifs
  fields := fds
  methods := ms
  attributes := attrs
def plain (name : String) (sup : Option ClassId) : Class where
  name := name
  kind := .ordinary
  loader := none
  accessFlags := 33
  super := sup
  interfaces := #[]
  cf := none
  fields := #[]
  methods := #[]
  instanceTypes := #[]
  staticTypes := #[]
  resolved := #[]
  callSites := []
  init := .initialized
  statics := none
  mirror := none

def pool0 : Array CpInfo := pool [(5, u "<init>"), (0, u "()V"), (1, .class_ 10), (1, u "java/lang/Object")] 113

def k0m0 : Method := { name := "<init>", desc := "()V", sig := { parameters := [], returnType := none }, accessFlags := 1, code := none }
/-- java/lang/Object -/
def k0 : Class := { plain "java/lang/Object" none with
  accessFlags := 33
  interfaces := #[]
  cf := some (fileOf pool0 8 #[] #[{ accessFlags := 1, nameIndex := 5, descriptorIndex := 6, attributes := #[] }] 33 0 #[] #[])
  fields := #[]
  methods := #[k0m0]
  instanceTypes := #[]
  staticTypes := #[]
  resolved := Array.replicate 124 none
  statics := none }

def pool1 : Array CpInfo := pool [(2, .class_ 4), (1, u "java/lang/Object"), (0, u "<init>"), (0, u "()V"), (0, .long 3), (1, .long 5), (1, .long 7), (1, .long 2), (1, .long 18446744073709551615), (1, .long 9), (1, .long 11), (1, .methodref 22 23), (0, .class_ 24), (0, .nameAndType 25 26), (0, u "com/example/plain_audit/plainaudit/trail/Field25519AddPinLaw"), (0, u "makeA"), (0, u "(JJJJ)[J"), (0, .methodref 22 28), (0, .nameAndType 29 26), (0, u "makeB"), (0, .methodref 22 31), (0, .nameAndType 32 26), (0, u "makeGarbage"), (0, .methodref 34 35), (0, .class_ 36), (0, .nameAndType 37 38), (0, u "com/example/plain_audit/plainaudit/trail/Field25519"), (0, u "add"), (0, u "([J[J[J)V"), (0, .methodref 22 40), (0, .nameAndType 41 42), (0, u "same"), (0, u "([J[J)Z"), (3, u "law"), (0, u "(JJJJI)Z")] 4

def k1m0 : Method := { name := "<init>", desc := "()V", sig := { parameters := [], returnType := none }, accessFlags := 2, code := none }
def k1c1 : Code := { maxStack := 7, maxLocals := 8, code := method_2_code, exceptionTable := #[], attributes := #[] }
def k1m1 : Method := { name := "makeA", desc := "(JJJJ)[J", sig := { parameters := [.long, .long, .long, .long], returnType := some (.array .long) }, accessFlags := 10, code := some k1c1 }
def k1c2 : Code := { maxStack := 7, maxLocals := 8, code := method_3_code, exceptionTable := #[], attributes := #[] }
def k1m2 : Method := { name := "makeB", desc := "(JJJJ)[J", sig := { parameters := [.long, .long, .long, .long], returnType := some (.array .long) }, accessFlags := 10, code := some k1c2 }
def k1c3 : Code := { maxStack := 7, maxLocals := 8, code := method_4_code, exceptionTable := #[], attributes := #[] }
def k1m3 : Method := { name := "makeGarbage", desc := "(JJJJ)[J", sig := { parameters := [.long, .long, .long, .long], returnType := some (.array .long) }, accessFlags := 10, code := some k1c3 }
def k1c4 : Code := { maxStack := 4, maxLocals := 2, code := method_5_code, exceptionTable := #[], attributes := #[] }
def k1m4 : Method := { name := "same", desc := "([J[J)Z", sig := { parameters := [(.array .long), (.array .long)], returnType := some .boolean }, accessFlags := 10, code := some k1c4 }
def k1c5 : Code := { maxStack := 8, maxLocals := 17, code := code, exceptionTable := #[], attributes := #[] }
def k1m5 : Method := { name := "law", desc := "(JJJJI)Z", sig := { parameters := [.long, .long, .long, .long, .int], returnType := some .boolean }, accessFlags := 9, code := some k1c5 }
/-- com/example/plain_audit/plainaudit/trail/Field25519AddPinLaw -/
def k1 : Class := { plain "com/example/plain_audit/plainaudit/trail/Field25519AddPinLaw" (some 0) with
  accessFlags := 49
  interfaces := #[]
  cf := some (fileOf pool1 22 #[] #[{ accessFlags := 2, nameIndex := 5, descriptorIndex := 6, attributes := #[] }, { accessFlags := 10, nameIndex := 25, descriptorIndex := 26, attributes := #[] }, { accessFlags := 10, nameIndex := 29, descriptorIndex := 26, attributes := #[] }, { accessFlags := 10, nameIndex := 32, descriptorIndex := 26, attributes := #[] }, { accessFlags := 10, nameIndex := 41, descriptorIndex := 42, attributes := #[] }, { accessFlags := 9, nameIndex := 46, descriptorIndex := 47, attributes := #[] }] 49 2 #[] #[])
  fields := #[]
  methods := #[k1m0, k1m1, k1m2, k1m3, k1m4, k1m5]
  instanceTypes := #[]
  staticTypes := #[]
  resolved := Array.replicate 52 none
  statics := none }

def pool2 : Array CpInfo := pool [(1, .class_ 2), (0, u "com/example/plain_audit/plainaudit/trail/Field25519"), (1, .class_ 6), (1, u "java/lang/Object"), (0, u "<init>"), (0, u "()V"), (51, u "([J[J[J)V"), (13, u "Ljava/math/BigInteger;"), (13, u "P"), (0, u "LIMBS"), (0, u "I"), (2, u "LIMB_BITS"), (1, u "LIMB_MASK"), (0, u "J"), (0, u "WRAP"), (0, u "TOP_BITS"), (1, u "TOP_MASK"), (12, u "add")] 5

def k2m0 : Method := { name := "<init>", desc := "()V", sig := { parameters := [], returnType := none }, accessFlags := 2, code := none }
def k2c1 : Code := { maxStack := 6, maxLocals := 4, code := prog_37_method_9_code, exceptionTable := #[], attributes := #[] }
def k2m1 : Method := { name := "add", desc := "([J[J[J)V", sig := { parameters := [(.array .long), (.array .long), (.array .long)], returnType := none }, accessFlags := 8, code := some k2c1 }
/-- com/example/plain_audit/plainaudit/trail/Field25519 -/
def k2 : Class := { plain "com/example/plain_audit/plainaudit/trail/Field25519" (some 0) with
  accessFlags := 32
  interfaces := #[]
  cf := some (fileOf pool2 1 #[] #[{ accessFlags := 2, nameIndex := 7, descriptorIndex := 8, attributes := #[] }, { accessFlags := 8, nameIndex := 113, descriptorIndex := 60, attributes := #[] }] 32 4 #[] #[{ accessFlags := 24, nameIndex := 89, descriptorIndex := 90, attributes := #[] }, { accessFlags := 24, nameIndex := 88, descriptorIndex := 74, attributes := #[] }, { accessFlags := 26, nameIndex := 93, descriptorIndex := 90, attributes := #[] }, { accessFlags := 26, nameIndex := 95, descriptorIndex := 96, attributes := #[] }, { accessFlags := 26, nameIndex := 97, descriptorIndex := 96, attributes := #[] }, { accessFlags := 26, nameIndex := 98, descriptorIndex := 90, attributes := #[] }, { accessFlags := 26, nameIndex := 100, descriptorIndex := 96, attributes := #[] }])
  fields := #[{ name := "LIMBS", type := .int, accessFlags := 24, slot := 0, constantValue := 0 }, { name := "P", type := (.object "java/math/BigInteger"), accessFlags := 24, slot := 1, constantValue := 0 }, { name := "LIMB_BITS", type := .int, accessFlags := 26, slot := 2, constantValue := 0 }, { name := "LIMB_MASK", type := .long, accessFlags := 26, slot := 3, constantValue := 0 }, { name := "WRAP", type := .long, accessFlags := 26, slot := 4, constantValue := 0 }, { name := "TOP_BITS", type := .int, accessFlags := 26, slot := 5, constantValue := 0 }, { name := "TOP_MASK", type := .long, accessFlags := 26, slot := 6, constantValue := 0 }]
  methods := #[k2m0, k2m1]
  instanceTypes := #[]
  staticTypes := #[.int, (.object "java/math/BigInteger"), .int, .long, .long, .int, .long]
  resolved := Array.replicate 119 none
  statics := none }

def pool3 : Array CpInfo := pool [(1, u "java/lang/Cloneable"), (0, .class_ 1), (0, u "java/lang/Object"), (0, .class_ 3)] 3

/-- java/lang/Cloneable -/
def k3 : Class := { plain "java/lang/Cloneable" (some 0) with
  accessFlags := 1537
  interfaces := #[]
  cf := some (fileOf pool3 2 #[] #[] 1537 4 #[] #[])
  fields := #[]
  methods := #[]
  instanceTypes := #[]
  staticTypes := #[]
  resolved := Array.replicate 8 none
  statics := none }

def pool4 : Array CpInfo := pool [(1, u "java/io/Serializable"), (0, .class_ 1), (0, u "java/lang/Object"), (0, .class_ 3)] 3

/-- java/io/Serializable -/
def k4 : Class := { plain "java/io/Serializable" (some 0) with
  accessFlags := 1537
  interfaces := #[]
  cf := some (fileOf pool4 2 #[] #[] 1537 4 #[] #[])
  fields := #[]
  methods := #[]
  instanceTypes := #[]
  staticTypes := #[]
  resolved := Array.replicate 8 none
  statics := none }

/-- the primitive byte -/
def k5 : Class := { plain "byte" none with kind := .primitive 'B', accessFlags := 0x411 }
/-- [B -/
def k6 : Class := { plain "[B" (some 0) with kind := .array 5 .byte, interfaces := #[3, 4], accessFlags := 1041 }

/-- the primitive int -/
def k7 : Class := { plain "int" none with kind := .primitive 'I', accessFlags := 0x411 }
/-- [I -/
def k8 : Class := { plain "[I" (some 0) with kind := .array 7 .int, interfaces := #[3, 4], accessFlags := 1041 }

/-- the primitive long -/
def k9 : Class := { plain "long" none with kind := .primitive 'J', accessFlags := 0x411 }
/-- [J -/
def k10 : Class := { plain "[J" (some 0) with kind := .array 9 .long, interfaces := #[3, 4], accessFlags := 1041 }

def heap : Heap := #[]
def classes : Array Class := #[k0, k1, k2, k3, k4, k5, k6, k7, k8, k9, k10]
def interned : List (Array UInt16 × Addr) := []
def slotsUsed : Nat := 0
def theMethod : MethodId := ⟨1, 5⟩
def args0 : Array Value := #[.long 5, .long 3, .long 2, .long 7, .int 2]
def aboutOver (below : List Frame) : State where
  vm := { classes := classes, interned := interned.toArray }
  heap := heap
  slotsUsed := slotsUsed
  threads := #[{ frames := .invoking theMethod args0 :: below }]
def below0 : List Frame := [.native { method := ⟨0, 0⟩, args := #[] }]
def about1 : State := aboutOver below0
def p0 : Program := .bare "" "" ""
def e0 : Env := launch0.env 0 0 0
theorem w_frames : about1.frames = Frame.invoking theMethod args0 :: below0 := rfl
set_option maxRecDepth 65536 in
theorem w_args : argsFit about1.vm theMethod args0 = true := by decide +kernel
set_option maxRecDepth 65536 in
theorem w_heap : heapFits about1 = true := by decide +kernel
set_option maxRecDepth 65536 in
theorem w_runnable : about1.curStatus? = some .runnable := by decide +kernel
set_option maxRecDepth 65536 in
theorem w_alone : about1.alone = true := by decide +kernel
set_option maxRecDepth 65536 in
theorem w_named : about1.methodNamed? x = some theMethod := by decide +kernel
set_option maxRecDepth 65536 in
theorem w_hears : about1.hears theMethod below0 = true := by decide +kernel
set_option maxRecDepth 65536 in
theorem w_ripe : about1.ripe theMethod args0 below0 = true := by decide +kernel
theorem w_running : about1.status = .running := rfl
set_option maxRecDepth 65536 in
theorem w_room : about1.hasRoom e0.platform room_1 = true :=
  launch0.hasRoom_least _ room_1 (by decide +kernel) (by decide +kernel) (by decide +kernel) (by decide +kernel) (by decide +kernel) (by decide +kernel)
theorem allAtoms_all (ts : List Jvm.Cond) (a : Array Jvm.Value) (st : Jvm.State) : (allAtoms ts).before a st = ts.all (fun c => c.before a st) := by
  induction ts with
  | nil => rfl
  | cons c t ih =>
    show (Jvm.Cond.and c (allAtoms t)).before a st = _
    rw [Jvm.Cond.before_and, ih, List.all_cons]
def words1 : List Jvm.Cond := Jvm.Cond.code x code maxLocals ret :: tables_1
/-- a 'code' word, met by the world's own term for the bytes: nothing is compared byte by byte -/
theorem code_word {y : MethodName} {bytes : ByteArray} {mx : Nat} {rt : Option FieldType} {a : Array Value} {s : State} {m : MethodId} {meth : Method} {c : Code} (h1 : s.methodNamed? y = some m) (h2 : s.vm.method? m = some meth) (h3 : meth.code = some c) (h4 : c.code = bytes)
    (h5 : (c.maxLocals == mx && c.exceptionTable.isEmpty && decide (c.maxStack ≤ mostOperands) && decide (meth.sig.returnType = rt) && !meth.locks && decide (parseMethodDescriptor y.desc = some meth.sig)) = true) : (Jvm.Cond.code y bytes mx rt).before a s = true := by
  simp only [Bool.and_eq_true, beq_iff_eq, Bool.not_eq_true', decide_eq_true_eq] at h5
  obtain ⟨⟨⟨⟨⟨g1, g2⟩, g3⟩, g4⟩, g5⟩, g6⟩ := h5
  simp [Cond.before, Cond.holds, Cond.value, h1, h2, h3, h4, g1, g2, g3, g4, g5, g6]
def isCode : Jvm.Cond → Bool
  | .code _ _ _ _ => true
  | _ => false
theorem all_split {L : List Jvm.Cond} {P : Jvm.Cond → Bool} (h1 : L.all (fun c => isCode c || P c) = true) (h2 : ∀ c ∈ L.filter isCode, P c = true) : L.all P = true := by
  refine List.all_eq_true.mpr fun c hc => ?_
  have h := List.all_eq_true.mp h1 c hc
  rcases Bool.eq_false_or_eq_true (isCode c) with hi | hi
  · exact h2 c (List.mem_filter.mpr ⟨hc, hi⟩)
  · simpa [hi] using h
set_option maxRecDepth 65536 in
theorem w_c0 : (Jvm.Cond.code x code maxLocals ret).before args0 about1 = true := code_word (m := ⟨1, 5⟩) (meth := k1m5) (c := k1c5) (by decide +kernel) rfl rfl rfl (by decide +kernel)
set_option maxRecDepth 65536 in
theorem w_c1 : (Jvm.Cond.code ({ cls := "com/example/plain_audit/plainaudit/trail/Field25519AddPinLaw", name := "makeA", desc := "(JJJJ)[J" } : Jvm.MethodName) method_2_code (8 : Nat) (Option.some (Jvm.ClassFile.FieldType.array Jvm.ClassFile.FieldType.long))).before args0 about1 = true := code_word (m := ⟨1, 1⟩) (meth := k1m1) (c := k1c1) (by decide +kernel) rfl rfl rfl (by decide +kernel)
set_option maxRecDepth 65536 in
theorem w_c2 : (Jvm.Cond.code ({ cls := "com/example/plain_audit/plainaudit/trail/Field25519AddPinLaw", name := "makeB", desc := "(JJJJ)[J" } : Jvm.MethodName) method_3_code (8 : Nat) (Option.some (Jvm.ClassFile.FieldType.array Jvm.ClassFile.FieldType.long))).before args0 about1 = true := code_word (m := ⟨1, 2⟩) (meth := k1m2) (c := k1c2) (by decide +kernel) rfl rfl rfl (by decide +kernel)
set_option maxRecDepth 65536 in
theorem w_c3 : (Jvm.Cond.code ({ cls := "com/example/plain_audit/plainaudit/trail/Field25519", name := "add", desc := "([J[J[J)V" } : Jvm.MethodName) prog_37_method_9_code (4 : Nat) (Option.none : Option Jvm.ClassFile.FieldType)).before args0 about1 = true := code_word (m := ⟨2, 1⟩) (meth := k2m1) (c := k2c1) (by decide +kernel) rfl rfl rfl (by decide +kernel)
set_option maxRecDepth 65536 in
theorem w_c4 : (Jvm.Cond.code ({ cls := "com/example/plain_audit/plainaudit/trail/Field25519AddPinLaw", name := "same", desc := "([J[J)Z" } : Jvm.MethodName) method_5_code (2 : Nat) (Option.some Jvm.ClassFile.FieldType.boolean)).before args0 about1 = true := code_word (m := ⟨1, 4⟩) (meth := k1m4) (c := k1c4) (by decide +kernel) rfl rfl rfl (by decide +kernel)
set_option maxRecDepth 65536 in
theorem w_c5 : (Jvm.Cond.code ({ cls := "com/example/plain_audit/plainaudit/trail/Field25519AddPinLaw", name := "makeGarbage", desc := "(JJJJ)[J" } : Jvm.MethodName) method_4_code (8 : Nat) (Option.some (Jvm.ClassFile.FieldType.array Jvm.ClassFile.FieldType.long))).before args0 about1 = true := code_word (m := ⟨1, 3⟩) (meth := k1m3) (c := k1c3) (by decide +kernel) rfl rfl rfl (by decide +kernel)
def codes1 : List Jvm.Cond := [Jvm.Cond.code x code maxLocals ret, Jvm.Cond.code ({ cls := "com/example/plain_audit/plainaudit/trail/Field25519AddPinLaw", name := "makeA", desc := "(JJJJ)[J" } : Jvm.MethodName) method_2_code (8 : Nat) (Option.some (Jvm.ClassFile.FieldType.array Jvm.ClassFile.FieldType.long)), Jvm.Cond.code ({ cls := "com/example/plain_audit/plainaudit/trail/Field25519AddPinLaw", name := "makeB", desc := "(JJJJ)[J" } : Jvm.MethodName) method_3_code (8 : Nat) (Option.some (Jvm.ClassFile.FieldType.array Jvm.ClassFile.FieldType.long)), Jvm.Cond.code ({ cls := "com/example/plain_audit/plainaudit/trail/Field25519", name := "add", desc := "([J[J[J)V" } : Jvm.MethodName) prog_37_method_9_code (4 : Nat) (Option.none : Option Jvm.ClassFile.FieldType), Jvm.Cond.code ({ cls := "com/example/plain_audit/plainaudit/trail/Field25519AddPinLaw", name := "same", desc := "([J[J)Z" } : Jvm.MethodName) method_5_code (2 : Nat) (Option.some Jvm.ClassFile.FieldType.boolean), Jvm.Cond.code ({ cls := "com/example/plain_audit/plainaudit/trail/Field25519AddPinLaw", name := "makeGarbage", desc := "(JJJJ)[J" } : Jvm.MethodName) method_4_code (8 : Nat) (Option.some (Jvm.ClassFile.FieldType.array Jvm.ClassFile.FieldType.long))]
set_option maxRecDepth 65536 in
theorem codes_eq : words1.filter isCode = codes1 := rfl
theorem w_codes : ∀ c ∈ words1.filter isCode, c.before args0 about1 = true := by
  rw [codes_eq]
  intro c hc
  simp only [codes1, List.mem_cons, List.not_mem_nil, or_false] at hc
  rcases hc with rfl | rfl | rfl | rfl | rfl | rfl
  · exact w_c0
  · exact w_c1
  · exact w_c2
  · exact w_c3
  · exact w_c4
  · exact w_c5
set_option maxRecDepth 65536 in
theorem w_t1 : (words1.take 24).all (fun c => isCode c || c.before args0 about1) = true := by decide +kernel
set_option maxRecDepth 65536 in
theorem w_t2 : (words1.drop 24).all (fun c => isCode c || c.before args0 about1) = true := by decide +kernel
theorem w_tables : (allAtoms (Jvm.Cond.code x code maxLocals ret :: tables_1)).before args0 about1 = true := by
  rw [allAtoms_all]
  show words1.all (fun c => c.before args0 about1) = true
  refine all_split ?_ w_codes
  rw [← List.take_append_drop 24 words1, List.all_append, w_t1, w_t2]
  rfl
set_option maxRecDepth 65536 in
theorem w_case : (Jvm.Cond.and given_1 narrow_1).before args0 about1 = true := by decide +kernel
theorem w_applies : (headSpec (Jvm.Cond.code x code maxLocals ret :: tables_1) room_1).applies x e0.platform about1 = true :=
  (Spec.applies_iff w_frames).mpr ⟨w_running, w_runnable, w_alone, w_named, w_hears, w_ripe, w_room, w_tables⟩
theorem atStart : AtStart classFile x code maxLocals ret World_1 tables_1 room_1 Calls_1 rest_1 Pre_1 launch0 p0 e0 about1 theMethod args0 below0 :=
  ⟨lists_1, trivial, launch0.admits_env _ _ _, launch0.least_env, fairChoices_fair.cas, fairChoices_fair.clock, w_frames, w_args, w_heap, w_applies, trivial, trivial, w_case⟩
end start1
theorem witness_1 : WitnessClaimed_1 := ⟨start1.p0, start1.e0, start1.about1, start1.theMethod, start1.args0, start1.below0, start1.atStart⟩
end Jvm.Pilot.@@N@@
