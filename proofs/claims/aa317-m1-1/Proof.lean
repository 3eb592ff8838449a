import JvmDerived
import JvmDerived.Pilot.@@N@@Statement
import JvmDerived.Pilot.@@N@@Code
set_option linter.unusedVariables false
set_option linter.unusedSimpArgs false
@@BLOCK:NumsL.lean.txt@@
namespace Jvm.OwnW
open Jvm Jvm.ClassFile Sem Op Lib Jvm.Free Jvm.Stand Jvm.LawKit Jvm.RoadKit
/-! what is left to be shown, and where the run stands -/
def Qc (n0 : Nat) (Q : Option Value → Heap → Prop) (v : Option Value) (h : Heap) (L : List Loc) : Prop := Fr n0 L ∧ n0 ≤ h.size ∧ Q v h
def W (p : Program) (e : Env) (below : List Frame) (s : State) (R : Room) (n0 : Nat) (Q : Option Value → Heap → Prop) (S0 : State) : Prop :=
  ∃ s₂ o, Steps p.tables e below S0 s₂ ∧ s₂.status = .running ∧ Ended s₂ below o ∧ ∃ v L, o = .returned v ∧ Qc n0 Q v s₂.heap L ∧ FrameEnd s o s₂ L R.cells R.slots
def Sn (Z : State) (n0 : Nat) (bs : ByteArray) (mx : Nat) (own nm : String) (ret : Option FieldType) (p : Program) (l : Launch) (e : Env) (R : Room) (s : State) (m : MethodId) (args : Array Value) (below : List Frame) (meth : Method) (c : Code) (T : State) (h : Heap) (cells slots : Nat) : Prop :=
  ∃ locs, Stand p l e R s m args below meth c T locs cells slots ∧ T.heap = h ∧ Fr n0 locs ∧ n0 ≤ h.size ∧ cells ≤ R.cells ∧ slots ≤ R.slots ∧ p.tables.exec = Jvm.exec ∧ Z.Warmed39 s.vm ∧ c.code = bs ∧ c.maxLocals = mx ∧ s.vm.findClass own = some m.cls ∧ meth.name = nm ∧ meth.sig.returnType = ret ∧ meth.locks = false
def Ct (l : Launch) (Z : State) (y : MethodName) (bs : ByteArray) (mx : Nat) (ret : Option FieldType) (ws : List Jvm.Cond) (R : Room) (as' : Array Value) (h : Heap) (n0 : Nat) (Q : Option Value → Heap → Prop) : Prop :=
  MetFree l y (head1 (Cond.code y bs mx ret :: ws) R) (fun a U => a = as' ∧ Z.Warmed39 U.vm ∧ U.heap = h) (fun _ _ _ _ _ => True) (fun _ U o U' => ∃ v L, o = .returned v ∧ Qc n0 Q v U'.heap L ∧ FrameEnd U o U' L R.cells R.slots)
theorem Ct.of {l : Launch} {Z : State} {y : MethodName} {bs : ByteArray} {mx : Nat} {ret : Option FieldType} {ws : List Jvm.Cond} {R : Room} {as' : Array Value} {h : Heap} {n0 : Nat} {Q : Option Value → Heap → Prop} {Ls : Array Slot}
    (hp : plainFor y = true) (hn : n0 ≤ h.size) (he : ∀ m, entryFrame m as' mx = mkF m 0 Ls [])
    (body : ∀ p e s m below meth c T, Sn Z n0 bs mx y.cls y.name ret p l e R s m as' below meth c T h 0 0 → W p e below s R n0 Q (T.setTop (mkF m 0 Ls []))) : Ct l Z y bs mx ret ws R as' h n0 Q := by
  refine MetFree.of_bodySF hp hisR ?_
  intro p e s m args below meth c s₁ Bd hml0 hP hK
  obtain ⟨rfl, hZ, hh⟩ := hP
  have X0 : Stand p l e R s m args below meth c s₁ [] 0 0 := Stand.of_body Bd
  have e0 : s₁.heap = h := by rw [← hh, Bd.state]; rfl
  obtain ⟨s2, o, st, r⟩ := body p e s m below meth c s₁ ⟨[], X0, e0, Fr.nil n0, hn, Nat.zero_le _, Nat.zero_le _, Bd.exec, hZ, Bd.bytes, hml0, findClass_of_methodNamed Bd.named, (name_of_methodNamed Bd.named Bd.method).1, Bd.returns, Bd.notSynchronized⟩
  exact ⟨s2, o, castTop (he m) st, r⟩
/-! the shifts, by names -/
def lus (x : Int64) (y : Int32) : Int64 := (x.toUInt64 >>> (y &&& 0x3f).toInt64.toUInt64).toInt64
def lsl (x : Int64) (y : Int32) : Int64 := x <<< (y &&& 0x3f).toInt64
def lsr (x : Int64) (y : Int32) : Int64 := x >>> (y &&& 0x3f).toInt64
def ius (x : Int32) (y : Int32) : Int32 := (x.toUInt32 >>> (y &&& 31).toUInt32).toInt32
def isl (x : Int32) (y : Int32) : Int32 := x <<< (y &&& 31)
def isr (x : Int32) (y : Int32) : Int32 := x >>> (y &&& 31)
theorem sh_u : ∀ k : Nat, k < 64 → ((Int32.ofNat k &&& 0x3f).toInt64.toUInt64.toBitVec % 64).toNat = k := by decide +kernel
theorem sh_s : ∀ k : Nat, k < 64 → ((Int32.ofNat k &&& 0x3f).toInt64.toBitVec.smod 64).toNat = k := by decide +kernel
theorem sh_u32 : ∀ k : Nat, k < 32 → ((Int32.ofNat k &&& 31).toUInt32.toBitVec % 32).toNat = k := by decide +kernel
theorem sh_s32 : ∀ k : Nat, k < 32 → ((Int32.ofNat k &&& 31).toBitVec.smod 32).toNat = k := by decide +kernel
theorem lusB (x : Int64) {k : Nat} (hk : k < 64) : (lus x (Int32.ofNat k)).toBitVec = x.toBitVec >>> k := by
  show (x.toUInt64 >>> (Int32.ofNat k &&& 0x3f).toInt64.toUInt64).toBitVec = _
  rw [UInt64.toBitVec_shiftRight, BitVec.ushiftRight_eq', sh_u k hk]; rfl
theorem lslB (x : Int64) {k : Nat} (hk : k < 64) : (lsl x (Int32.ofNat k)).toBitVec = x.toBitVec <<< k := by
  unfold lsl
  rw [Int64.toBitVec_shiftLeft, BitVec.shiftLeft_eq', sh_s k hk]
theorem lsrB (x : Int64) {k : Nat} (hk : k < 64) : (lsr x (Int32.ofNat k)).toBitVec = x.toBitVec.sshiftRight k := by
  unfold lsr
  rw [Int64.toBitVec_shiftRight, BitVec.sshiftRight_eq', sh_s k hk]
theorem iusB (x : Int32) {k : Nat} (hk : k < 32) : (ius x (Int32.ofNat k)).toBitVec = x.toBitVec >>> k := by
  show (x.toUInt32 >>> (Int32.ofNat k &&& 31).toUInt32).toBitVec = _
  rw [UInt32.toBitVec_shiftRight, BitVec.ushiftRight_eq', sh_u32 k hk]; rfl
theorem isrB (x : Int32) {k : Nat} (hk : k < 32) : (isr x (Int32.ofNat k)).toBitVec = x.toBitVec.sshiftRight k := by
  unfold isr
  rw [Int32.toBitVec_shiftRight, BitVec.sshiftRight_eq', sh_s32 k hk]
/-- the long read without its sign -/
def un (x : Int64) : Nat := x.toBitVec.toNat
theorem un_inj {x y : Int64} (h : un x = un y) : x = y := Int64.toBitVec_inj.mp (BitVec.eq_of_toNat_eq h)
theorem un_lt (x : Int64) : un x < 2 ^ 64 := x.toBitVec.isLt
theorem un_of_nonneg {x : Int64} (h : 0 ≤ x.toInt) : (un x : Int) = x.toInt ∧ un x < 2 ^ 63 := by
  have e : x.toInt = if 2 * un x < 2 ^ 64 then (un x : Int) else (un x : Int) - ((2 ^ 64 : Nat) : Int) := BitVec.toInt_eq_toNat_cond _
  have l := un_lt x
  by_cases q : 2 * un x < 2 ^ 64
  · rw [if_pos q] at e; omega
  · rw [if_neg q] at e; omega
theorem un_lus (x : Int64) {k : Nat} (hk : k < 64) : un (lus x (Int32.ofNat k)) = un x / 2 ^ k := by
  unfold un; rw [lusB x hk, BitVec.toNat_ushiftRight, Nat.shiftRight_eq_div_pow]
theorem un_lsl (x : Int64) {k : Nat} (hk : k < 64) : un (lsl x (Int32.ofNat k)) = un x * 2 ^ k % 2 ^ 64 := by
  unfold un; rw [lslB x hk, BitVec.toNat_shiftLeft, Nat.shiftLeft_eq]
theorem un_or (x y : Int64) : un (x ||| y) = un x ||| un y := by
  unfold un; rw [Int64.toBitVec_or, BitVec.toNat_or]
theorem un_and (x y : Int64) : un (x &&& y) = un x &&& un y := by
  unfold un; rw [Int64.toBitVec_and, BitVec.toNat_and]
theorem un_mask (x m : Int64) {k : Nat} (hm : un m = 2 ^ k - 1) : un (x &&& m) = un x % 2 ^ k := by
  rw [un_and, hm, Nat.and_two_pow_sub_one_eq_mod]
theorem toInt_of_un {x : Int64} (h : un x < 2 ^ 63) : x.toInt = un x := by
  have e : x.toInt = x.toBitVec.toInt := rfl
  rw [e, BitVec.toInt_eq_toNat_cond]
  unfold un at *
  rw [if_pos (by omega)]
theorem lus_nonneg {x : Int64} (h : 0 ≤ x.toInt) {k : Nat} (hk : k < 64) : (lus x (Int32.ofNat k)).toInt = x.toInt / 2 ^ k := by
  have h1 := un_of_nonneg h
  have h2 := un_lus x hk
  have h3 : un x / 2 ^ k ≤ un x := Nat.div_le_self _ _
  rw [toInt_of_un (by omega), h2, ← h1.1]; simp
theorem byteN : ∀ b : BitVec 8, ((Int8.ofBitVec b).toInt32.toInt8.toInt32 &&& 255).toInt64.toBitVec.toNat = b.toNat := by decide +kernel
theorem byteU (v : Int64) : un ((v.toInt32.toInt8.toInt32.toInt8.toInt32 &&& 255).toInt64) = un v % 256 := by
  have e : (v.toInt32.toInt8).toBitVec.toNat = un v % 256 := by
    show ((v.toBitVec.signExtend 32).signExtend 8).toNat = _
    rw [BitVec.signExtend_eq_setWidth_of_le _ (by decide), BitVec.signExtend_eq_setWidth_of_le _ (by decide), BitVec.toNat_setWidth, BitVec.toNat_setWidth]
    unfold un; omega
  have h := byteN v.toInt32.toInt8.toBitVec
  rw [e] at h
  exact h
theorem catU {a c : Int64} {k : Nat} (hk : k < 64) (ha : un a * 2 ^ k < 2 ^ 64) (hc : un c < 2 ^ k) : un (lsl a (Int32.ofNat k) ||| c) = un a * 2 ^ k + un c := by
  rw [un_or, un_lsl a hk, Nat.mod_eq_of_lt ha, ← Nat.shiftLeft_eq, Nat.shiftLeft_add_eq_or_of_lt hc]
/-! an array: its kind, its length, what each place holds -/
def AF (Z : State) (h : Heap) (a : Addr) (ty : FieldType) (n : Nat) (f : Nat → Value) : Prop := ∃ c : Cell, Arr Z h a c ty ∧ c.slots.size = n ∧ n < 2 ^ 31 ∧ ∀ j, j < n → c.slots[j]? = some (f j)
def up (f : Nat → Value) (i : Nat) (v : Value) : Nat → Value := fun j => if j = i then v else f j
section
variable {Z : State} {h h' h0 : Heap} {a b : Addr} {ty : FieldType} {n i sl : Nat} {f g : Nat → Value} {v : Value} {ws : List Addr}
theorem AF.lt (F : AF Z h a ty n f) : a < h.size := by obtain ⟨c, A, -⟩ := F; exact A.lt
theorem AF.len (F : AF Z h a ty n f) : n < 2 ^ 31 := by obtain ⟨c, -, -, q, -⟩ := F; exact q
theorem AF.ext (F : AF Z h a ty n f) (E : Ext h h') : AF Z h' a ty n f := by obtain ⟨c, A, r⟩ := F; exact ⟨c, A.ext E, r⟩
theorem AF.other (F : AF Z h b ty n f) (W : Wr h h' a sl v) (q : b ≠ a) : AF Z h' b ty n f := by obtain ⟨c, A, r⟩ := F; exact ⟨c, A.other W q, r⟩
theorem AF.keep (F : AF Z h a ty n f) (K : Keep h h' ws) (q : a ∉ ws) : AF Z h' a ty n f := by obtain ⟨c, A, r⟩ := F; exact ⟨c, ⟨K.2.1 a c A.1 q, A.2⟩, r⟩
theorem AF.congr (F : AF Z h a ty n f) (q : ∀ j, j < n → f j = g j) : AF Z h a ty n g := by obtain ⟨c, A, r1, r2, r3⟩ := F; exact ⟨c, A, r1, r2, fun j hj => by rw [← q j hj]; exact r3 j hj⟩
theorem AF.set (F : AF Z h a ty n f) (W : Wr h h' a i v) : AF Z h' a ty n (up f i v) := by
  obtain ⟨c, A, r1, r2, r3⟩ := F
  refine ⟨_, A.same W, by rw [sz_set]; exact r1, r2, fun j hj => ?_⟩
  by_cases u : j = i
  · subst u; simp [Cell.setSlot, up, r1, hj]
  · simp only [Cell.setSlot, up, u, if_false]; rw [Array.getElem?_setIfInBounds_ne (Ne.symm u)]; exact r3 j hj
theorem AF.new {k : ClassId} {z : Int32} (A : Arr Z h a (newA k ty z) ty) (q : z.toInt = n) : AF Z h a ty n (fun _ => defaultValue ty) := by
  have := Int32.toInt_lt z
  refine ⟨_, A, by rw [sz_new]; simp only [Int32.toNatClampNeg]; omega, by omega, fun j hj => ?_⟩
  have : j < z.toNatClampNeg := by simp only [Int32.toNatClampNeg]; omega
  simp [newA, this]
theorem up_eq {j : Nat} (q : j = i) : up f i v j = v := if_pos q
theorem up_ne {j : Nat} (q : j ≠ i) : up f i v j = f j := if_neg q
theorem ne_size (q : b = h.size) (r : a < h.size) : a ≠ b := by subst q; exact Nat.ne_of_lt r
theorem Keep.app (K : Keep h0 h ws) (K' : Keep h h' ws) : Keep h0 h' ws := K.trans K' fun x hx => Or.inl hx
end
section
variable {p : Program} {l : Launch} {e : Env} {R : Room} {s : State} {m : MethodId} {args : Array Value} {below : List Frame} {meth : Method} {c : Code} {Z : State} {a0 : Array Value} {n0 : Nat} {bs : ByteArray} {mx : Nat} {own nm : String} {ret : Option FieldType} {T : State} {h : Heap} {cells slots : Nat} {Q : Option Value → Heap → Prop} {pc pc' pc1 pc2 k : Nat} {Ls L' : Array Slot} {st : List Value} {o : Int}
theorem W.of {S0 S1 : State} (q : ∀ t, Steps p.tables e below S1 t → Steps p.tables e below S0 t) (w : W p e below s R n0 Q S1) : W p e below s R n0 Q S0 := by
  obtain ⟨s2, o, st, r⟩ := w; exact ⟨s2, o, q _ st, r⟩
theorem W.fwd {S0 S1 : State} (q : Steps p.tables e below S0 S1) (w : W p e below s R n0 Q S1) : W p e below s R n0 Q S0 := W.of (fun _ k => q.trans k) w
theorem w_topI {x x' : Int32} (q : x = x') (w : W p e below s R n0 Q (T.setTop (mkF m pc Ls (.int x' :: st)))) : W p e below s R n0 Q (T.setTop (mkF m pc Ls (.int x :: st))) := by rw [q]; exact w
theorem w_topJ {x x' : Int64} (q : x = x') (w : W p e below s R n0 Q (T.setTop (mkF m pc Ls (.long x' :: st)))) : W p e below s R n0 Q (T.setTop (mkF m pc Ls (.long x :: st))) := by rw [q]; exact w
theorem Sn.size (X : Sn Z n0 bs mx own nm ret p l e R s m args below meth c T h cells slots) : n0 ≤ h.size := by obtain ⟨_, _, _, _, q, _⟩ := X; exact q
theorem Sn.more (X : Sn Z n0 bs mx own nm ret p l e R s m args below meth c T h cells slots) {cells' slots' : Nat} (q : cells ≤ cells' ∧ slots ≤ slots' ∧ cells' ≤ R.cells ∧ slots' ≤ R.slots) : Sn Z n0 bs mx own nm ret p l e R s m args below meth c T h cells' slots' := by
  obtain ⟨locs, X, r1, r2, r3, -, -, r⟩ := X; exact ⟨locs, X.more q.1 q.2.1, r1, r2, r3, q.2.2.1, q.2.2.2, r⟩
theorem w_iload (X : Sn Z n0 bs mx own nm ret p l e R s m args below meth c T h cells slots) {v : Int32} (hd : decode bs pc = .ok (.iload k, 2)) (hl : Ls[k]? = some (.val (.int v))) (hp : pc + 2 = pc')
    (w : W p e below s R n0 Q (T.setTop (mkF m pc' Ls (.int v :: st)))) : W p e below s R n0 Q (T.setTop (mkF m pc Ls (st))) := by
  obtain ⟨locs, X, eT, N, hs0, hcl, hsl, hx, hZ, rfl, hml, hown, hnm, hret, hlk⟩ := X
  subst hp
  exact W.of (fun t k => XS.iload X.here hx rfl hd hl k) w
theorem w_iloadN (X : Sn Z n0 bs mx own nm ret p l e R s m args below meth c T h cells slots) {v : Int32} {q : Fin 4} (hd : decode bs pc = .ok (.iload_n q, 1)) (hl : Ls[q.val]? = some (.val (.int v))) (hp : pc + 1 = pc')
    (w : W p e below s R n0 Q (T.setTop (mkF m pc' Ls (.int v :: st)))) : W p e below s R n0 Q (T.setTop (mkF m pc Ls (st))) := by
  obtain ⟨locs, X, eT, N, hs0, hcl, hsl, hx, hZ, rfl, hml, hown, hnm, hret, hlk⟩ := X
  subst hp
  exact W.of (fun t k => XS.iloadN X.here hx rfl hd hl k) w
theorem w_istore (X : Sn Z n0 bs mx own nm ret p l e R s m args below meth c T h cells slots) {v : Int32} (hd : decode bs pc = .ok (.istore k, 2)) (hl : storeLocals Ls k (.int v) = some L') (hp : pc + 2 = pc')
    (w : W p e below s R n0 Q (T.setTop (mkF m pc' L' (st)))) : W p e below s R n0 Q (T.setTop (mkF m pc Ls (.int v :: st))) := by
  obtain ⟨locs, X, eT, N, hs0, hcl, hsl, hx, hZ, rfl, hml, hown, hnm, hret, hlk⟩ := X
  subst hp
  exact W.of (fun t k => XS.istore X.here hx rfl hd rfl hl k) w
theorem w_istoreN (X : Sn Z n0 bs mx own nm ret p l e R s m args below meth c T h cells slots) {v : Int32} {q : Fin 4} (hd : decode bs pc = .ok (.istore_n q, 1)) (hl : storeLocals Ls q.val (.int v) = some L') (hp : pc + 1 = pc')
    (w : W p e below s R n0 Q (T.setTop (mkF m pc' L' (st)))) : W p e below s R n0 Q (T.setTop (mkF m pc Ls (.int v :: st))) := by
  obtain ⟨locs, X, eT, N, hs0, hcl, hsl, hx, hZ, rfl, hml, hown, hnm, hret, hlk⟩ := X
  subst hp
  exact W.of (fun t k => XS.istoreN X.here hx rfl hd rfl hl k) w
theorem w_lload (X : Sn Z n0 bs mx own nm ret p l e R s m args below meth c T h cells slots) {v : Int64} (hd : decode bs pc = .ok (.lload k, 2)) (hl : Ls[k]? = some (.val (.long v))) (hp : pc + 2 = pc')
    (w : W p e below s R n0 Q (T.setTop (mkF m pc' Ls (.long v :: st)))) : W p e below s R n0 Q (T.setTop (mkF m pc Ls (st))) := by
  obtain ⟨locs, X, eT, N, hs0, hcl, hsl, hx, hZ, rfl, hml, hown, hnm, hret, hlk⟩ := X
  subst hp
  exact W.of (fun t k => XS.lload X.here hx rfl hd hl k) w
theorem w_lloadN (X : Sn Z n0 bs mx own nm ret p l e R s m args below meth c T h cells slots) {v : Int64} {q : Fin 4} (hd : decode bs pc = .ok (.lload_n q, 1)) (hl : Ls[q.val]? = some (.val (.long v))) (hp : pc + 1 = pc')
    (w : W p e below s R n0 Q (T.setTop (mkF m pc' Ls (.long v :: st)))) : W p e below s R n0 Q (T.setTop (mkF m pc Ls (st))) := by
  obtain ⟨locs, X, eT, N, hs0, hcl, hsl, hx, hZ, rfl, hml, hown, hnm, hret, hlk⟩ := X
  subst hp
  exact W.of (fun t k => XS.lloadN X.here hx rfl hd hl k) w
theorem w_lstore (X : Sn Z n0 bs mx own nm ret p l e R s m args below meth c T h cells slots) {v : Int64} (hd : decode bs pc = .ok (.lstore k, 2)) (hl : storeLocals Ls k (.long v) = some L') (hp : pc + 2 = pc')
    (w : W p e below s R n0 Q (T.setTop (mkF m pc' L' (st)))) : W p e below s R n0 Q (T.setTop (mkF m pc Ls (.long v :: st))) := by
  obtain ⟨locs, X, eT, N, hs0, hcl, hsl, hx, hZ, rfl, hml, hown, hnm, hret, hlk⟩ := X
  subst hp
  exact W.of (fun t k => XS.lstore X.here hx rfl hd rfl hl k) w
theorem w_lstoreN (X : Sn Z n0 bs mx own nm ret p l e R s m args below meth c T h cells slots) {v : Int64} {q : Fin 4} (hd : decode bs pc = .ok (.lstore_n q, 1)) (hl : storeLocals Ls q.val (.long v) = some L') (hp : pc + 1 = pc')
    (w : W p e below s R n0 Q (T.setTop (mkF m pc' L' (st)))) : W p e below s R n0 Q (T.setTop (mkF m pc Ls (.long v :: st))) := by
  obtain ⟨locs, X, eT, N, hs0, hcl, hsl, hx, hZ, rfl, hml, hown, hnm, hret, hlk⟩ := X
  subst hp
  exact W.of (fun t k => XS.lstoreN X.here hx rfl hd rfl hl k) w
theorem w_aload (X : Sn Z n0 bs mx own nm ret p l e R s m args below meth c T h cells slots) {v : Value} (hd : decode bs pc = .ok (.aload k, 2)) (hl : Ls[k]? = some (.val v)) (hv : v.isRef = true) (hp : pc + 2 = pc')
    (w : W p e below s R n0 Q (T.setTop (mkF m pc' Ls (v :: st)))) : W p e below s R n0 Q (T.setTop (mkF m pc Ls (st))) := by
  obtain ⟨locs, X, eT, N, hs0, hcl, hsl, hx, hZ, rfl, hml, hown, hnm, hret, hlk⟩ := X
  subst hp
  exact W.of (fun t k => XS.aload X.here hx rfl hd hl hv k) w
theorem w_aloadN (X : Sn Z n0 bs mx own nm ret p l e R s m args below meth c T h cells slots) {v : Value} {q : Fin 4} (hd : decode bs pc = .ok (.aload_n q, 1)) (hl : Ls[q.val]? = some (.val v)) (hv : v.isRef = true) (hp : pc + 1 = pc')
    (w : W p e below s R n0 Q (T.setTop (mkF m pc' Ls (v :: st)))) : W p e below s R n0 Q (T.setTop (mkF m pc Ls (st))) := by
  obtain ⟨locs, X, eT, N, hs0, hcl, hsl, hx, hZ, rfl, hml, hown, hnm, hret, hlk⟩ := X
  subst hp
  exact W.of (fun t k => XS.aloadN X.here hx rfl hd hl hv k) w
theorem w_astore (X : Sn Z n0 bs mx own nm ret p l e R s m args below meth c T h cells slots) {v : Value} (hd : decode bs pc = .ok (.astore k, 2)) (hv : v.isRef = true) (hl : storeLocals Ls k v = some L') (hp : pc + 2 = pc')
    (w : W p e below s R n0 Q (T.setTop (mkF m pc' L' (st)))) : W p e below s R n0 Q (T.setTop (mkF m pc Ls (v :: st))) := by
  obtain ⟨locs, X, eT, N, hs0, hcl, hsl, hx, hZ, rfl, hml, hown, hnm, hret, hlk⟩ := X
  subst hp
  exact W.of (fun t k => XS.astore X.here hx rfl hd rfl hv hl k) w
theorem w_astoreN (X : Sn Z n0 bs mx own nm ret p l e R s m args below meth c T h cells slots) {v : Value} {q : Fin 4} (hd : decode bs pc = .ok (.astore_n q, 1)) (hv : v.isRef = true) (hl : storeLocals Ls q.val v = some L') (hp : pc + 1 = pc')
    (w : W p e below s R n0 Q (T.setTop (mkF m pc' L' (st)))) : W p e below s R n0 Q (T.setTop (mkF m pc Ls (v :: st))) := by
  obtain ⟨locs, X, eT, N, hs0, hcl, hsl, hx, hZ, rfl, hml, hown, hnm, hret, hlk⟩ := X
  subst hp
  exact W.of (fun t k => XS.astoreN X.here hx rfl hd rfl hv hl k) w
theorem w_iconst (X : Sn Z n0 bs mx own nm ret p l e R s m args below meth c T h cells slots) {z : Int32} (hd : decode bs pc = .ok (.iconst o, 1)) (hz : Int32.ofInt o = z) (hp : pc + 1 = pc')
    (w : W p e below s R n0 Q (T.setTop (mkF m pc' Ls (.int z :: st)))) : W p e below s R n0 Q (T.setTop (mkF m pc Ls (st))) := by
  obtain ⟨locs, X, eT, N, hs0, hcl, hsl, hx, hZ, rfl, hml, hown, hnm, hret, hlk⟩ := X
  subst hp
  exact W.of (fun t k => by subst hz; exact XS.iconst X.here hx rfl hd k) w
theorem w_bipush (X : Sn Z n0 bs mx own nm ret p l e R s m args below meth c T h cells slots) {z : Int32} (hd : decode bs pc = .ok (.bipush o, 2)) (hz : (Int8.ofInt o).toInt32 = z) (hp : pc + 2 = pc')
    (w : W p e below s R n0 Q (T.setTop (mkF m pc' Ls (.int z :: st)))) : W p e below s R n0 Q (T.setTop (mkF m pc Ls (st))) := by
  obtain ⟨locs, X, eT, N, hs0, hcl, hsl, hx, hZ, rfl, hml, hown, hnm, hret, hlk⟩ := X
  subst hp
  exact W.of (fun t k => by subst hz; exact XS.bipush X.here hx rfl hd k) w
theorem w_sipush (X : Sn Z n0 bs mx own nm ret p l e R s m args below meth c T h cells slots) {z : Int32} (hd : decode bs pc = .ok (.sipush o, 3)) (hz : (Int16.ofInt o).toInt32 = z) (hp : pc + 3 = pc')
    (w : W p e below s R n0 Q (T.setTop (mkF m pc' Ls (.int z :: st)))) : W p e below s R n0 Q (T.setTop (mkF m pc Ls (st))) := by
  obtain ⟨locs, X, eT, N, hs0, hcl, hsl, hx, hZ, rfl, hml, hown, hnm, hret, hlk⟩ := X
  subst hp
  exact W.of (fun t k => by subst hz; exact XS.sipush X.here hx rfl hd k) w
theorem w_lconst (X : Sn Z n0 bs mx own nm ret p l e R s m args below meth c T h cells slots) {z : Int64} {q : Fin 2} (hd : decode bs pc = .ok (.lconst q, 1)) (hz : Int64.ofNat q = z) (hp : pc + 1 = pc')
    (w : W p e below s R n0 Q (T.setTop (mkF m pc' Ls (.long z :: st)))) : W p e below s R n0 Q (T.setTop (mkF m pc Ls (st))) := by
  obtain ⟨locs, X, eT, N, hs0, hcl, hsl, hx, hZ, rfl, hml, hown, hnm, hret, hlk⟩ := X
  subst hp
  exact W.of (fun t k => by subst hz; exact XS.lconst X.here hx rfl hd k) w
theorem w_aconst_null (X : Sn Z n0 bs mx own nm ret p l e R s m args below meth c T h cells slots) (hd : decode bs pc = .ok (.aconst_null, 1)) (hp : pc + 1 = pc')
    (w : W p e below s R n0 Q (T.setTop (mkF m pc' Ls (.null :: st)))) : W p e below s R n0 Q (T.setTop (mkF m pc Ls (st))) := by
  obtain ⟨locs, X, eT, N, hs0, hcl, hsl, hx, hZ, rfl, hml, hown, hnm, hret, hlk⟩ := X
  subst hp
  exact W.of (fun t k => XS.aconstNull X.here hx rfl hd k) w
theorem w_ldc (X : Sn Z n0 bs mx own nm ret p l e R s m args below meth c T h cells slots) {z : Int32} {q : Nat} (hd : decode bs pc = .ok (.ldc q, 2)) (hw : (Cond.constant own q z).before a0 Z = true) (hp : pc + 2 = pc')
    (w : W p e below s R n0 Q (T.setTop (mkF m pc' Ls (.int z :: st)))) : W p e below s R n0 Q (T.setTop (mkF m pc Ls (st))) := by
  obtain ⟨locs, X, eT, N, hs0, hcl, hsl, hx, hZ, rfl, hml, hown, hnm, hret, hlk⟩ := X
  subst hp
  exact W.of (fun t k => X.ldcInt (own := own) (v := z) hx hown (mvT (args := args) (s := s) hZ hw rfl) (g := mkF m pc Ls st) rfl hd _ k) w
theorem w_ldc2 (X : Sn Z n0 bs mx own nm ret p l e R s m args below meth c T h cells slots) {z : Int64} {q : Nat} (hd : decode bs pc = .ok (.ldc2_w q, 3)) (hw : (Cond.constantLong own q z).before a0 Z = true) (hp : pc + 3 = pc')
    (w : W p e below s R n0 Q (T.setTop (mkF m pc' Ls (.long z :: st)))) : W p e below s R n0 Q (T.setTop (mkF m pc Ls (st))) := by
  obtain ⟨locs, X, eT, N, hs0, hcl, hsl, hx, hZ, rfl, hml, hown, hnm, hret, hlk⟩ := X
  subst hp
  exact W.of (fun t k => X.ldc2Long (own := own) (v := z) hx hown (mvT (args := args) (s := s) hZ hw rfl) (g := mkF m pc Ls st) rfl hd _ k) w
theorem w_iadd (X : Sn Z n0 bs mx own nm ret p l e R s m args below meth c T h cells slots) {x y : Int32} (hd : decode bs pc = .ok (.iadd, 1)) (hp : pc + 1 = pc')
    (w : W p e below s R n0 Q (T.setTop (mkF m pc' Ls (.int (x + y) :: st)))) : W p e below s R n0 Q (T.setTop (mkF m pc Ls (.int y :: .int x :: st))) := by
  obtain ⟨locs, X, eT, N, hs0, hcl, hsl, hx, hZ, rfl, hml, hown, hnm, hret, hlk⟩ := X
  subst hp
  exact W.of (fun t k => XS.iadd X.here hx rfl hd rfl k) w
theorem w_ladd (X : Sn Z n0 bs mx own nm ret p l e R s m args below meth c T h cells slots) {x y : Int64} (hd : decode bs pc = .ok (.ladd, 1)) (hp : pc + 1 = pc')
    (w : W p e below s R n0 Q (T.setTop (mkF m pc' Ls (.long (x + y) :: st)))) : W p e below s R n0 Q (T.setTop (mkF m pc Ls (.long y :: .long x :: st))) := by
  obtain ⟨locs, X, eT, N, hs0, hcl, hsl, hx, hZ, rfl, hml, hown, hnm, hret, hlk⟩ := X
  subst hp
  exact W.of (fun t k => XS.ladd X.here hx rfl hd rfl k) w
theorem w_isub (X : Sn Z n0 bs mx own nm ret p l e R s m args below meth c T h cells slots) {x y : Int32} (hd : decode bs pc = .ok (.isub, 1)) (hp : pc + 1 = pc')
    (w : W p e below s R n0 Q (T.setTop (mkF m pc' Ls (.int (x - y) :: st)))) : W p e below s R n0 Q (T.setTop (mkF m pc Ls (.int y :: .int x :: st))) := by
  obtain ⟨locs, X, eT, N, hs0, hcl, hsl, hx, hZ, rfl, hml, hown, hnm, hret, hlk⟩ := X
  subst hp
  exact W.of (fun t k => XS.isub X.here hx rfl hd rfl k) w
theorem w_lsub (X : Sn Z n0 bs mx own nm ret p l e R s m args below meth c T h cells slots) {x y : Int64} (hd : decode bs pc = .ok (.lsub, 1)) (hp : pc + 1 = pc')
    (w : W p e below s R n0 Q (T.setTop (mkF m pc' Ls (.long (x - y) :: st)))) : W p e below s R n0 Q (T.setTop (mkF m pc Ls (.long y :: .long x :: st))) := by
  obtain ⟨locs, X, eT, N, hs0, hcl, hsl, hx, hZ, rfl, hml, hown, hnm, hret, hlk⟩ := X
  subst hp
  exact W.of (fun t k => XS.lsub X.here hx rfl hd rfl k) w
theorem w_imul (X : Sn Z n0 bs mx own nm ret p l e R s m args below meth c T h cells slots) {x y : Int32} (hd : decode bs pc = .ok (.imul, 1)) (hp : pc + 1 = pc')
    (w : W p e below s R n0 Q (T.setTop (mkF m pc' Ls (.int (x * y) :: st)))) : W p e below s R n0 Q (T.setTop (mkF m pc Ls (.int y :: .int x :: st))) := by
  obtain ⟨locs, X, eT, N, hs0, hcl, hsl, hx, hZ, rfl, hml, hown, hnm, hret, hlk⟩ := X
  subst hp
  exact W.of (fun t k => XS.imul X.here hx rfl hd rfl k) w
theorem w_lmul (X : Sn Z n0 bs mx own nm ret p l e R s m args below meth c T h cells slots) {x y : Int64} (hd : decode bs pc = .ok (.lmul, 1)) (hp : pc + 1 = pc')
    (w : W p e below s R n0 Q (T.setTop (mkF m pc' Ls (.long (x * y) :: st)))) : W p e below s R n0 Q (T.setTop (mkF m pc Ls (.long y :: .long x :: st))) := by
  obtain ⟨locs, X, eT, N, hs0, hcl, hsl, hx, hZ, rfl, hml, hown, hnm, hret, hlk⟩ := X
  subst hp
  exact W.of (fun t k => XS.lmul X.here hx rfl hd rfl k) w
theorem w_iand (X : Sn Z n0 bs mx own nm ret p l e R s m args below meth c T h cells slots) {x y : Int32} (hd : decode bs pc = .ok (.iand, 1)) (hp : pc + 1 = pc')
    (w : W p e below s R n0 Q (T.setTop (mkF m pc' Ls (.int (x &&& y) :: st)))) : W p e below s R n0 Q (T.setTop (mkF m pc Ls (.int y :: .int x :: st))) := by
  obtain ⟨locs, X, eT, N, hs0, hcl, hsl, hx, hZ, rfl, hml, hown, hnm, hret, hlk⟩ := X
  subst hp
  exact W.of (fun t k => XS.iand X.here hx rfl hd rfl k) w
theorem w_land (X : Sn Z n0 bs mx own nm ret p l e R s m args below meth c T h cells slots) {x y : Int64} (hd : decode bs pc = .ok (.land, 1)) (hp : pc + 1 = pc')
    (w : W p e below s R n0 Q (T.setTop (mkF m pc' Ls (.long (x &&& y) :: st)))) : W p e below s R n0 Q (T.setTop (mkF m pc Ls (.long y :: .long x :: st))) := by
  obtain ⟨locs, X, eT, N, hs0, hcl, hsl, hx, hZ, rfl, hml, hown, hnm, hret, hlk⟩ := X
  subst hp
  exact W.of (fun t k => XS.land X.here hx rfl hd rfl k) w
theorem w_ior (X : Sn Z n0 bs mx own nm ret p l e R s m args below meth c T h cells slots) {x y : Int32} (hd : decode bs pc = .ok (.ior, 1)) (hp : pc + 1 = pc')
    (w : W p e below s R n0 Q (T.setTop (mkF m pc' Ls (.int (x ||| y) :: st)))) : W p e below s R n0 Q (T.setTop (mkF m pc Ls (.int y :: .int x :: st))) := by
  obtain ⟨locs, X, eT, N, hs0, hcl, hsl, hx, hZ, rfl, hml, hown, hnm, hret, hlk⟩ := X
  subst hp
  exact W.of (fun t k => XS.ior X.here hx rfl hd rfl k) w
theorem w_lor (X : Sn Z n0 bs mx own nm ret p l e R s m args below meth c T h cells slots) {x y : Int64} (hd : decode bs pc = .ok (.lor, 1)) (hp : pc + 1 = pc')
    (w : W p e below s R n0 Q (T.setTop (mkF m pc' Ls (.long (x ||| y) :: st)))) : W p e below s R n0 Q (T.setTop (mkF m pc Ls (.long y :: .long x :: st))) := by
  obtain ⟨locs, X, eT, N, hs0, hcl, hsl, hx, hZ, rfl, hml, hown, hnm, hret, hlk⟩ := X
  subst hp
  exact W.of (fun t k => XS.lor X.here hx rfl hd rfl k) w
theorem w_ixor (X : Sn Z n0 bs mx own nm ret p l e R s m args below meth c T h cells slots) {x y : Int32} (hd : decode bs pc = .ok (.ixor, 1)) (hp : pc + 1 = pc')
    (w : W p e below s R n0 Q (T.setTop (mkF m pc' Ls (.int (x ^^^ y) :: st)))) : W p e below s R n0 Q (T.setTop (mkF m pc Ls (.int y :: .int x :: st))) := by
  obtain ⟨locs, X, eT, N, hs0, hcl, hsl, hx, hZ, rfl, hml, hown, hnm, hret, hlk⟩ := X
  subst hp
  exact W.of (fun t k => XS.ixor X.here hx rfl hd rfl k) w
theorem w_lxor (X : Sn Z n0 bs mx own nm ret p l e R s m args below meth c T h cells slots) {x y : Int64} (hd : decode bs pc = .ok (.lxor, 1)) (hp : pc + 1 = pc')
    (w : W p e below s R n0 Q (T.setTop (mkF m pc' Ls (.long (x ^^^ y) :: st)))) : W p e below s R n0 Q (T.setTop (mkF m pc Ls (.long y :: .long x :: st))) := by
  obtain ⟨locs, X, eT, N, hs0, hcl, hsl, hx, hZ, rfl, hml, hown, hnm, hret, hlk⟩ := X
  subst hp
  exact W.of (fun t k => XS.lxor X.here hx rfl hd rfl k) w
theorem w_ishl (X : Sn Z n0 bs mx own nm ret p l e R s m args below meth c T h cells slots) {x y : Int32} (hd : decode bs pc = .ok (.ishl, 1)) (hp : pc + 1 = pc')
    (w : W p e below s R n0 Q (T.setTop (mkF m pc' Ls (.int (isl x y) :: st)))) : W p e below s R n0 Q (T.setTop (mkF m pc Ls (.int y :: .int x :: st))) := by
  obtain ⟨locs, X, eT, N, hs0, hcl, hsl, hx, hZ, rfl, hml, hown, hnm, hret, hlk⟩ := X
  subst hp
  exact W.of (fun t k => XS.ishl X.here hx rfl hd rfl k) w
theorem w_ishr (X : Sn Z n0 bs mx own nm ret p l e R s m args below meth c T h cells slots) {x y : Int32} (hd : decode bs pc = .ok (.ishr, 1)) (hp : pc + 1 = pc')
    (w : W p e below s R n0 Q (T.setTop (mkF m pc' Ls (.int (isr x y) :: st)))) : W p e below s R n0 Q (T.setTop (mkF m pc Ls (.int y :: .int x :: st))) := by
  obtain ⟨locs, X, eT, N, hs0, hcl, hsl, hx, hZ, rfl, hml, hown, hnm, hret, hlk⟩ := X
  subst hp
  exact W.of (fun t k => XS.ishr X.here hx rfl hd rfl k) w
theorem w_iushr (X : Sn Z n0 bs mx own nm ret p l e R s m args below meth c T h cells slots) {x y : Int32} (hd : decode bs pc = .ok (.iushr, 1)) (hp : pc + 1 = pc')
    (w : W p e below s R n0 Q (T.setTop (mkF m pc' Ls (.int (ius x y) :: st)))) : W p e below s R n0 Q (T.setTop (mkF m pc Ls (.int y :: .int x :: st))) := by
  obtain ⟨locs, X, eT, N, hs0, hcl, hsl, hx, hZ, rfl, hml, hown, hnm, hret, hlk⟩ := X
  subst hp
  exact W.of (fun t k => XS.iushr X.here hx rfl hd rfl k) w
theorem w_lshl (X : Sn Z n0 bs mx own nm ret p l e R s m args below meth c T h cells slots) {x : Int64} {y : Int32} (hd : decode bs pc = .ok (.lshl, 1)) (hp : pc + 1 = pc')
    (w : W p e below s R n0 Q (T.setTop (mkF m pc' Ls (.long (lsl x y) :: st)))) : W p e below s R n0 Q (T.setTop (mkF m pc Ls (.int y :: .long x :: st))) := by
  obtain ⟨locs, X, eT, N, hs0, hcl, hsl, hx, hZ, rfl, hml, hown, hnm, hret, hlk⟩ := X
  subst hp
  exact W.of (fun t k => XS.lshl X.here hx rfl hd rfl k) w
theorem w_lshr (X : Sn Z n0 bs mx own nm ret p l e R s m args below meth c T h cells slots) {x : Int64} {y : Int32} (hd : decode bs pc = .ok (.lshr, 1)) (hp : pc + 1 = pc')
    (w : W p e below s R n0 Q (T.setTop (mkF m pc' Ls (.long (lsr x y) :: st)))) : W p e below s R n0 Q (T.setTop (mkF m pc Ls (.int y :: .long x :: st))) := by
  obtain ⟨locs, X, eT, N, hs0, hcl, hsl, hx, hZ, rfl, hml, hown, hnm, hret, hlk⟩ := X
  subst hp
  exact W.of (fun t k => XS.lshr X.here hx rfl hd rfl k) w
theorem w_lushr (X : Sn Z n0 bs mx own nm ret p l e R s m args below meth c T h cells slots) {x : Int64} {y : Int32} (hd : decode bs pc = .ok (.lushr, 1)) (hp : pc + 1 = pc')
    (w : W p e below s R n0 Q (T.setTop (mkF m pc' Ls (.long (lus x y) :: st)))) : W p e below s R n0 Q (T.setTop (mkF m pc Ls (.int y :: .long x :: st))) := by
  obtain ⟨locs, X, eT, N, hs0, hcl, hsl, hx, hZ, rfl, hml, hown, hnm, hret, hlk⟩ := X
  subst hp
  exact W.of (fun t k => XS.lushr X.here hx rfl hd rfl k) w
theorem w_idiv (X : Sn Z n0 bs mx own nm ret p l e R s m args below meth c T h cells slots) {x y : Int32} (hd : decode bs pc = .ok (.idiv, 1)) (hy : y ≠ 0) (hp : pc + 1 = pc')
    (w : W p e below s R n0 Q (T.setTop (mkF m pc' Ls (.int (x / y) :: st)))) : W p e below s R n0 Q (T.setTop (mkF m pc Ls (.int y :: .int x :: st))) := by
  obtain ⟨locs, X, eT, N, hs0, hcl, hsl, hx, hZ, rfl, hml, hown, hnm, hret, hlk⟩ := X
  subst hp
  exact W.of (fun t k => XS.idiv X.here hx rfl hd rfl hy k) w
theorem w_irem (X : Sn Z n0 bs mx own nm ret p l e R s m args below meth c T h cells slots) {x y : Int32} (hd : decode bs pc = .ok (.irem, 1)) (hy : y ≠ 0) (hp : pc + 1 = pc')
    (w : W p e below s R n0 Q (T.setTop (mkF m pc' Ls (.int (x % y) :: st)))) : W p e below s R n0 Q (T.setTop (mkF m pc Ls (.int y :: .int x :: st))) := by
  obtain ⟨locs, X, eT, N, hs0, hcl, hsl, hx, hZ, rfl, hml, hown, hnm, hret, hlk⟩ := X
  subst hp
  exact W.of (fun t k => iremM X hx rfl hd rfl hy k) w
theorem w_ineg (X : Sn Z n0 bs mx own nm ret p l e R s m args below meth c T h cells slots) {x : Int32} (hd : decode bs pc = .ok (.ineg, 1)) (hp : pc + 1 = pc')
    (w : W p e below s R n0 Q (T.setTop (mkF m pc' Ls (.int (-x) :: st)))) : W p e below s R n0 Q (T.setTop (mkF m pc Ls (.int x :: st))) := by
  obtain ⟨locs, X, eT, N, hs0, hcl, hsl, hx, hZ, rfl, hml, hown, hnm, hret, hlk⟩ := X
  subst hp
  exact W.of (fun t k => XS.ineg X.here hx rfl hd rfl k) w
theorem w_lneg (X : Sn Z n0 bs mx own nm ret p l e R s m args below meth c T h cells slots) {x : Int64} (hd : decode bs pc = .ok (.lneg, 1)) (hp : pc + 1 = pc')
    (w : W p e below s R n0 Q (T.setTop (mkF m pc' Ls (.long (-x) :: st)))) : W p e below s R n0 Q (T.setTop (mkF m pc Ls (.long x :: st))) := by
  obtain ⟨locs, X, eT, N, hs0, hcl, hsl, hx, hZ, rfl, hml, hown, hnm, hret, hlk⟩ := X
  subst hp
  exact W.of (fun t k => XS.lneg X.here hx rfl hd rfl k) w
theorem w_i2l (X : Sn Z n0 bs mx own nm ret p l e R s m args below meth c T h cells slots) {x : Int32} (hd : decode bs pc = .ok (.i2l, 1)) (hp : pc + 1 = pc')
    (w : W p e below s R n0 Q (T.setTop (mkF m pc' Ls (.long x.toInt64 :: st)))) : W p e below s R n0 Q (T.setTop (mkF m pc Ls (.int x :: st))) := by
  obtain ⟨locs, X, eT, N, hs0, hcl, hsl, hx, hZ, rfl, hml, hown, hnm, hret, hlk⟩ := X
  subst hp
  exact W.of (fun t k => XS.i2l X.here hx rfl hd rfl k) w
theorem w_l2i (X : Sn Z n0 bs mx own nm ret p l e R s m args below meth c T h cells slots) {x : Int64} (hd : decode bs pc = .ok (.l2i, 1)) (hp : pc + 1 = pc')
    (w : W p e below s R n0 Q (T.setTop (mkF m pc' Ls (.int x.toInt32 :: st)))) : W p e below s R n0 Q (T.setTop (mkF m pc Ls (.long x :: st))) := by
  obtain ⟨locs, X, eT, N, hs0, hcl, hsl, hx, hZ, rfl, hml, hown, hnm, hret, hlk⟩ := X
  subst hp
  exact W.of (fun t k => XS.l2i X.here hx rfl hd rfl k) w
theorem w_i2b (X : Sn Z n0 bs mx own nm ret p l e R s m args below meth c T h cells slots) {x : Int32} (hd : decode bs pc = .ok (.i2b, 1)) (hp : pc + 1 = pc')
    (w : W p e below s R n0 Q (T.setTop (mkF m pc' Ls (.int x.toInt8.toInt32 :: st)))) : W p e below s R n0 Q (T.setTop (mkF m pc Ls (.int x :: st))) := by
  obtain ⟨locs, X, eT, N, hs0, hcl, hsl, hx, hZ, rfl, hml, hown, hnm, hret, hlk⟩ := X
  subst hp
  exact W.of (fun t k => XS.i2b X.here hx rfl hd rfl k) w
theorem w_i2s (X : Sn Z n0 bs mx own nm ret p l e R s m args below meth c T h cells slots) {x : Int32} (hd : decode bs pc = .ok (.i2s, 1)) (hp : pc + 1 = pc')
    (w : W p e below s R n0 Q (T.setTop (mkF m pc' Ls (.int x.toInt16.toInt32 :: st)))) : W p e below s R n0 Q (T.setTop (mkF m pc Ls (.int x :: st))) := by
  obtain ⟨locs, X, eT, N, hs0, hcl, hsl, hx, hZ, rfl, hml, hown, hnm, hret, hlk⟩ := X
  subst hp
  exact W.of (fun t k => XS.i2s X.here hx rfl hd rfl k) w
theorem w_dup (X : Sn Z n0 bs mx own nm ret p l e R s m args below meth c T h cells slots) {v : Value} (hd : decode bs pc = .ok (.dup, 1)) (hv : v.category = 1) (hp : pc + 1 = pc')
    (w : W p e below s R n0 Q (T.setTop (mkF m pc' Ls (v :: v :: st)))) : W p e below s R n0 Q (T.setTop (mkF m pc Ls (v :: st))) := by
  obtain ⟨locs, X, eT, N, hs0, hcl, hsl, hx, hZ, rfl, hml, hown, hnm, hret, hlk⟩ := X
  subst hp
  exact W.of (fun t k => XS.dup X.here hx rfl hd rfl hv k) w
theorem w_dup2 (X : Sn Z n0 bs mx own nm ret p l e R s m args below meth c T h cells slots) {v u : Value} (hd : decode bs pc = .ok (.dup2, 1)) (hv : v.category = 1) (hu : u.category = 1) (hp : pc + 1 = pc')
    (w : W p e below s R n0 Q (T.setTop (mkF m pc' Ls (v :: u :: v :: u :: st)))) : W p e below s R n0 Q (T.setTop (mkF m pc Ls (v :: u :: st))) := by
  obtain ⟨locs, X, eT, N, hs0, hcl, hsl, hx, hZ, rfl, hml, hown, hnm, hret, hlk⟩ := X
  subst hp
  exact W.of (fun t k => XT.dup2 X.here hx rfl hd rfl hv hu k) w
theorem w_pop (X : Sn Z n0 bs mx own nm ret p l e R s m args below meth c T h cells slots) {v : Value} (hd : decode bs pc = .ok (.pop, 1)) (hv : v.category = 1) (hp : pc + 1 = pc')
    (w : W p e below s R n0 Q (T.setTop (mkF m pc' Ls (st)))) : W p e below s R n0 Q (T.setTop (mkF m pc Ls (v :: st))) := by
  obtain ⟨locs, X, eT, N, hs0, hcl, hsl, hx, hZ, rfl, hml, hown, hnm, hret, hlk⟩ := X
  subst hp
  exact W.of (fun t k => XS.pop X.here hx rfl hd rfl hv k) w
theorem w_iinc (X : Sn Z n0 bs mx own nm ret p l e R s m args below meth c T h cells slots) {x z : Int32} (hd : decode bs pc = .ok (.iinc k o, 3)) (hl : Ls[k]? = some (.val (.int x))) (hz : x + Int32.ofInt o = z) (hl' : storeLocals Ls k (.int z) = some L') (hp : pc + 3 = pc')
    (w : W p e below s R n0 Q (T.setTop (mkF m pc' L' (st)))) : W p e below s R n0 Q (T.setTop (mkF m pc Ls (st))) := by
  obtain ⟨locs, X, eT, N, hs0, hcl, hsl, hx, hZ, rfl, hml, hown, hnm, hret, hlk⟩ := X
  subst hp hz
  exact W.of (fun t k => XS.iinc X.here hx rfl hd hl hl' k) w
theorem w_goto (X : Sn Z n0 bs mx own nm ret p l e R s m args below meth c T h cells slots) (hd : decode bs pc = .ok (.goto o, 3)) (hp : 0 ≤ (pc : Int) + o ∧ ((pc : Int) + o).toNat = pc')
    (w : W p e below s R n0 Q (T.setTop (mkF m pc' Ls (st)))) : W p e below s R n0 Q (T.setTop (mkF m pc Ls (st))) := by
  obtain ⟨locs, X, eT, N, hs0, hcl, hsl, hx, hZ, rfl, hml, hown, hnm, hret, hlk⟩ := X
  exact W.of (fun t k => XS.goto X.here hx rfl rfl hd hp.1 hp.2 k) w
theorem hI_eq {x y : Int32} : if_icmp.holds .eq x y = decide (x = y) := by by_cases q : x = y <;> simp [q, (teq · |>.1), (feq · |>.1)]
theorem hI_ne {x y : Int32} : if_icmp.holds .ne x y = decide (x ≠ y) := by by_cases q : x = y <;> simp [q, (teq · |>.2), (feq · |>.2)]
theorem hI_lt {x y : Int32} : if_icmp.holds .lt x y = decide (x.toInt < y.toInt) := by
  by_cases q : x < y
  · rw [(tlt q).1]; exact (decide_eq_true (Int32.lt_iff_toInt_lt.mp q)).symm
  · rw [(flt q).1]; exact (decide_eq_false fun z => q (Int32.lt_iff_toInt_lt.mpr z)).symm
theorem hI_ge {x y : Int32} : if_icmp.holds .ge x y = decide (x.toInt ≥ y.toInt) := by
  by_cases q : x < y
  · rw [(tlt q).2.1]; exact (decide_eq_false fun z => by have := Int32.lt_iff_toInt_lt.mp q; omega).symm
  · rw [(flt q).2.1]; exact (decide_eq_true (by rw [Int32.lt_iff_toInt_lt] at q; omega)).symm
theorem hI_gt {x y : Int32} : if_icmp.holds .gt x y = decide (x.toInt > y.toInt) := by
  by_cases q : y < x
  · rw [(tlt q).2.2.1]; exact (decide_eq_true (Int32.lt_iff_toInt_lt.mp q)).symm
  · rw [(flt q).2.2.1]; exact (decide_eq_false fun z => q (Int32.lt_iff_toInt_lt.mpr z)).symm
theorem hI_le {x y : Int32} : if_icmp.holds .le x y = decide (x.toInt ≤ y.toInt) := by
  by_cases q : y < x
  · rw [(tlt q).2.2.2]; exact (decide_eq_false fun z => by have := Int32.lt_iff_toInt_lt.mp q; omega).symm
  · rw [(flt q).2.2.2]; exact (decide_eq_true (by rw [Int32.lt_iff_toInt_lt] at q; omega)).symm
theorem w_icmp_eq (X : Sn Z n0 bs mx own nm ret p l e R s m args below meth c T h cells slots) {x y : Int32} (hd : decode bs pc = .ok (.if_icmp .eq o, 3)) (hp : 0 ≤ (pc : Int) + o ∧ ((pc : Int) + o).toNat = pc1 ∧ pc + 3 = pc2)
    (yes : x = y → W p e below s R n0 Q (T.setTop (mkF m pc1 Ls (st)))) (no : x ≠ y → W p e below s R n0 Q (T.setTop (mkF m pc2 Ls (st)))) : W p e below s R n0 Q (T.setTop (mkF m pc Ls (.int y :: .int x :: st))) := by
  obtain ⟨locs, X, eT, N, hs0, hcl, hsl, hx, hZ, rfl, hml, hown, hnm, hret, hlk⟩ := X
  by_cases z : x = y
  · exact W.of (fun t k => XS.icmpYes X.here hx rfl rfl hd rfl (hI_eq.trans (decide_eq_true z)) hp.1 hp.2.1 k) (yes z)
  · have w := no (z)
    rw [← hp.2.2] at w
    exact W.of (fun t k => XS.icmpNo X.here hx rfl hd rfl (hI_eq.trans (decide_eq_false z)) k) w
theorem w_if_eq (X : Sn Z n0 bs mx own nm ret p l e R s m args below meth c T h cells slots) {x : Int32} (hd : decode bs pc = .ok (.ifCond .eq o, 3)) (hp : 0 ≤ (pc : Int) + o ∧ ((pc : Int) + o).toNat = pc1 ∧ pc + 3 = pc2)
    (yes : x = 0 → W p e below s R n0 Q (T.setTop (mkF m pc1 Ls (st)))) (no : x ≠ 0 → W p e below s R n0 Q (T.setTop (mkF m pc2 Ls (st)))) : W p e below s R n0 Q (T.setTop (mkF m pc Ls (.int x :: st))) := by
  obtain ⟨locs, X, eT, N, hs0, hcl, hsl, hx, hZ, rfl, hml, hown, hnm, hret, hlk⟩ := X
  have hq : ifCond.holds .eq x = decide (x = 0) := (if0 _ _).trans hI_eq
  by_cases z : x = 0
  · exact W.of (fun t k => XS.ifYes X.here hx rfl rfl hd rfl (hq.trans (decide_eq_true z)) hp.1 hp.2.1 k) (yes z)
  · have w := no (z)
    rw [← hp.2.2] at w
    exact W.of (fun t k => XS.ifNo X.here hx rfl hd rfl (hq.trans (decide_eq_false z)) k) w
theorem w_icmp_ne (X : Sn Z n0 bs mx own nm ret p l e R s m args below meth c T h cells slots) {x y : Int32} (hd : decode bs pc = .ok (.if_icmp .ne o, 3)) (hp : 0 ≤ (pc : Int) + o ∧ ((pc : Int) + o).toNat = pc1 ∧ pc + 3 = pc2)
    (yes : x ≠ y → W p e below s R n0 Q (T.setTop (mkF m pc1 Ls (st)))) (no : x = y → W p e below s R n0 Q (T.setTop (mkF m pc2 Ls (st)))) : W p e below s R n0 Q (T.setTop (mkF m pc Ls (.int y :: .int x :: st))) := by
  obtain ⟨locs, X, eT, N, hs0, hcl, hsl, hx, hZ, rfl, hml, hown, hnm, hret, hlk⟩ := X
  by_cases z : x ≠ y
  · exact W.of (fun t k => XS.icmpYes X.here hx rfl rfl hd rfl (hI_ne.trans (decide_eq_true z)) hp.1 hp.2.1 k) (yes z)
  · have w := no (Classical.byContradiction fun u => z u)
    rw [← hp.2.2] at w
    exact W.of (fun t k => XS.icmpNo X.here hx rfl hd rfl (hI_ne.trans (decide_eq_false z)) k) w
theorem w_if_ne (X : Sn Z n0 bs mx own nm ret p l e R s m args below meth c T h cells slots) {x : Int32} (hd : decode bs pc = .ok (.ifCond .ne o, 3)) (hp : 0 ≤ (pc : Int) + o ∧ ((pc : Int) + o).toNat = pc1 ∧ pc + 3 = pc2)
    (yes : x ≠ 0 → W p e below s R n0 Q (T.setTop (mkF m pc1 Ls (st)))) (no : x = 0 → W p e below s R n0 Q (T.setTop (mkF m pc2 Ls (st)))) : W p e below s R n0 Q (T.setTop (mkF m pc Ls (.int x :: st))) := by
  obtain ⟨locs, X, eT, N, hs0, hcl, hsl, hx, hZ, rfl, hml, hown, hnm, hret, hlk⟩ := X
  have hq : ifCond.holds .ne x = decide (x ≠ 0) := (if0 _ _).trans hI_ne
  by_cases z : x ≠ 0
  · exact W.of (fun t k => XS.ifYes X.here hx rfl rfl hd rfl (hq.trans (decide_eq_true z)) hp.1 hp.2.1 k) (yes z)
  · have w := no (Classical.byContradiction fun u => z u)
    rw [← hp.2.2] at w
    exact W.of (fun t k => XS.ifNo X.here hx rfl hd rfl (hq.trans (decide_eq_false z)) k) w
theorem w_icmp_lt (X : Sn Z n0 bs mx own nm ret p l e R s m args below meth c T h cells slots) {x y : Int32} (hd : decode bs pc = .ok (.if_icmp .lt o, 3)) (hp : 0 ≤ (pc : Int) + o ∧ ((pc : Int) + o).toNat = pc1 ∧ pc + 3 = pc2)
    (yes : x.toInt < y.toInt → W p e below s R n0 Q (T.setTop (mkF m pc1 Ls (st)))) (no : x.toInt ≥ y.toInt → W p e below s R n0 Q (T.setTop (mkF m pc2 Ls (st)))) : W p e below s R n0 Q (T.setTop (mkF m pc Ls (.int y :: .int x :: st))) := by
  obtain ⟨locs, X, eT, N, hs0, hcl, hsl, hx, hZ, rfl, hml, hown, hnm, hret, hlk⟩ := X
  by_cases z : x.toInt < y.toInt
  · exact W.of (fun t k => XS.icmpYes X.here hx rfl rfl hd rfl (hI_lt.trans (decide_eq_true z)) hp.1 hp.2.1 k) (yes z)
  · have w := no (Int.not_lt.mp z)
    rw [← hp.2.2] at w
    exact W.of (fun t k => XS.icmpNo X.here hx rfl hd rfl (hI_lt.trans (decide_eq_false z)) k) w
theorem w_if_lt (X : Sn Z n0 bs mx own nm ret p l e R s m args below meth c T h cells slots) {x : Int32} (hd : decode bs pc = .ok (.ifCond .lt o, 3)) (hp : 0 ≤ (pc : Int) + o ∧ ((pc : Int) + o).toNat = pc1 ∧ pc + 3 = pc2)
    (yes : x.toInt < 0 → W p e below s R n0 Q (T.setTop (mkF m pc1 Ls (st)))) (no : x.toInt ≥ 0 → W p e below s R n0 Q (T.setTop (mkF m pc2 Ls (st)))) : W p e below s R n0 Q (T.setTop (mkF m pc Ls (.int x :: st))) := by
  obtain ⟨locs, X, eT, N, hs0, hcl, hsl, hx, hZ, rfl, hml, hown, hnm, hret, hlk⟩ := X
  have hq : ifCond.holds .lt x = decide (x.toInt < 0) := (if0 _ _).trans hI_lt
  by_cases z : x.toInt < 0
  · exact W.of (fun t k => XS.ifYes X.here hx rfl rfl hd rfl (hq.trans (decide_eq_true z)) hp.1 hp.2.1 k) (yes z)
  · have w := no (Int.not_lt.mp z)
    rw [← hp.2.2] at w
    exact W.of (fun t k => XS.ifNo X.here hx rfl hd rfl (hq.trans (decide_eq_false z)) k) w
theorem w_icmp_ge (X : Sn Z n0 bs mx own nm ret p l e R s m args below meth c T h cells slots) {x y : Int32} (hd : decode bs pc = .ok (.if_icmp .ge o, 3)) (hp : 0 ≤ (pc : Int) + o ∧ ((pc : Int) + o).toNat = pc1 ∧ pc + 3 = pc2)
    (yes : x.toInt ≥ y.toInt → W p e below s R n0 Q (T.setTop (mkF m pc1 Ls (st)))) (no : x.toInt < y.toInt → W p e below s R n0 Q (T.setTop (mkF m pc2 Ls (st)))) : W p e below s R n0 Q (T.setTop (mkF m pc Ls (.int y :: .int x :: st))) := by
  obtain ⟨locs, X, eT, N, hs0, hcl, hsl, hx, hZ, rfl, hml, hown, hnm, hret, hlk⟩ := X
  by_cases z : x.toInt ≥ y.toInt
  · exact W.of (fun t k => XS.icmpYes X.here hx rfl rfl hd rfl (hI_ge.trans (decide_eq_true z)) hp.1 hp.2.1 k) (yes z)
  · have w := no (Int.not_le.mp z)
    rw [← hp.2.2] at w
    exact W.of (fun t k => XS.icmpNo X.here hx rfl hd rfl (hI_ge.trans (decide_eq_false z)) k) w
theorem w_if_ge (X : Sn Z n0 bs mx own nm ret p l e R s m args below meth c T h cells slots) {x : Int32} (hd : decode bs pc = .ok (.ifCond .ge o, 3)) (hp : 0 ≤ (pc : Int) + o ∧ ((pc : Int) + o).toNat = pc1 ∧ pc + 3 = pc2)
    (yes : x.toInt ≥ 0 → W p e below s R n0 Q (T.setTop (mkF m pc1 Ls (st)))) (no : x.toInt < 0 → W p e below s R n0 Q (T.setTop (mkF m pc2 Ls (st)))) : W p e below s R n0 Q (T.setTop (mkF m pc Ls (.int x :: st))) := by
  obtain ⟨locs, X, eT, N, hs0, hcl, hsl, hx, hZ, rfl, hml, hown, hnm, hret, hlk⟩ := X
  have hq : ifCond.holds .ge x = decide (x.toInt ≥ 0) := (if0 _ _).trans hI_ge
  by_cases z : x.toInt ≥ 0
  · exact W.of (fun t k => XS.ifYes X.here hx rfl rfl hd rfl (hq.trans (decide_eq_true z)) hp.1 hp.2.1 k) (yes z)
  · have w := no (Int.not_le.mp z)
    rw [← hp.2.2] at w
    exact W.of (fun t k => XS.ifNo X.here hx rfl hd rfl (hq.trans (decide_eq_false z)) k) w
theorem w_icmp_gt (X : Sn Z n0 bs mx own nm ret p l e R s m args below meth c T h cells slots) {x y : Int32} (hd : decode bs pc = .ok (.if_icmp .gt o, 3)) (hp : 0 ≤ (pc : Int) + o ∧ ((pc : Int) + o).toNat = pc1 ∧ pc + 3 = pc2)
    (yes : x.toInt > y.toInt → W p e below s R n0 Q (T.setTop (mkF m pc1 Ls (st)))) (no : x.toInt ≤ y.toInt → W p e below s R n0 Q (T.setTop (mkF m pc2 Ls (st)))) : W p e below s R n0 Q (T.setTop (mkF m pc Ls (.int y :: .int x :: st))) := by
  obtain ⟨locs, X, eT, N, hs0, hcl, hsl, hx, hZ, rfl, hml, hown, hnm, hret, hlk⟩ := X
  by_cases z : x.toInt > y.toInt
  · exact W.of (fun t k => XS.icmpYes X.here hx rfl rfl hd rfl (hI_gt.trans (decide_eq_true z)) hp.1 hp.2.1 k) (yes z)
  · have w := no (Int.not_lt.mp z)
    rw [← hp.2.2] at w
    exact W.of (fun t k => XS.icmpNo X.here hx rfl hd rfl (hI_gt.trans (decide_eq_false z)) k) w
theorem w_if_gt (X : Sn Z n0 bs mx own nm ret p l e R s m args below meth c T h cells slots) {x : Int32} (hd : decode bs pc = .ok (.ifCond .gt o, 3)) (hp : 0 ≤ (pc : Int) + o ∧ ((pc : Int) + o).toNat = pc1 ∧ pc + 3 = pc2)
    (yes : x.toInt > 0 → W p e below s R n0 Q (T.setTop (mkF m pc1 Ls (st)))) (no : x.toInt ≤ 0 → W p e below s R n0 Q (T.setTop (mkF m pc2 Ls (st)))) : W p e below s R n0 Q (T.setTop (mkF m pc Ls (.int x :: st))) := by
  obtain ⟨locs, X, eT, N, hs0, hcl, hsl, hx, hZ, rfl, hml, hown, hnm, hret, hlk⟩ := X
  have hq : ifCond.holds .gt x = decide (x.toInt > 0) := (if0 _ _).trans hI_gt
  by_cases z : x.toInt > 0
  · exact W.of (fun t k => XS.ifYes X.here hx rfl rfl hd rfl (hq.trans (decide_eq_true z)) hp.1 hp.2.1 k) (yes z)
  · have w := no (Int.not_lt.mp z)
    rw [← hp.2.2] at w
    exact W.of (fun t k => XS.ifNo X.here hx rfl hd rfl (hq.trans (decide_eq_false z)) k) w
theorem w_icmp_le (X : Sn Z n0 bs mx own nm ret p l e R s m args below meth c T h cells slots) {x y : Int32} (hd : decode bs pc = .ok (.if_icmp .le o, 3)) (hp : 0 ≤ (pc : Int) + o ∧ ((pc : Int) + o).toNat = pc1 ∧ pc + 3 = pc2)
    (yes : x.toInt ≤ y.toInt → W p e below s R n0 Q (T.setTop (mkF m pc1 Ls (st)))) (no : x.toInt > y.toInt → W p e below s R n0 Q (T.setTop (mkF m pc2 Ls (st)))) : W p e below s R n0 Q (T.setTop (mkF m pc Ls (.int y :: .int x :: st))) := by
  obtain ⟨locs, X, eT, N, hs0, hcl, hsl, hx, hZ, rfl, hml, hown, hnm, hret, hlk⟩ := X
  by_cases z : x.toInt ≤ y.toInt
  · exact W.of (fun t k => XS.icmpYes X.here hx rfl rfl hd rfl (hI_le.trans (decide_eq_true z)) hp.1 hp.2.1 k) (yes z)
  · have w := no (Int.not_le.mp z)
    rw [← hp.2.2] at w
    exact W.of (fun t k => XS.icmpNo X.here hx rfl hd rfl (hI_le.trans (decide_eq_false z)) k) w
theorem w_if_le (X : Sn Z n0 bs mx own nm ret p l e R s m args below meth c T h cells slots) {x : Int32} (hd : decode bs pc = .ok (.ifCond .le o, 3)) (hp : 0 ≤ (pc : Int) + o ∧ ((pc : Int) + o).toNat = pc1 ∧ pc + 3 = pc2)
    (yes : x.toInt ≤ 0 → W p e below s R n0 Q (T.setTop (mkF m pc1 Ls (st)))) (no : x.toInt > 0 → W p e below s R n0 Q (T.setTop (mkF m pc2 Ls (st)))) : W p e below s R n0 Q (T.setTop (mkF m pc Ls (.int x :: st))) := by
  obtain ⟨locs, X, eT, N, hs0, hcl, hsl, hx, hZ, rfl, hml, hown, hnm, hret, hlk⟩ := X
  have hq : ifCond.holds .le x = decide (x.toInt ≤ 0) := (if0 _ _).trans hI_le
  by_cases z : x.toInt ≤ 0
  · exact W.of (fun t k => XS.ifYes X.here hx rfl rfl hd rfl (hq.trans (decide_eq_true z)) hp.1 hp.2.1 k) (yes z)
  · have w := no (Int.not_le.mp z)
    rw [← hp.2.2] at w
    exact W.of (fun t k => XS.ifNo X.here hx rfl hd rfl (hq.trans (decide_eq_false z)) k) w
theorem hL {x y : Int64} : (if x > y then (1 : Int32) else if x = y then 0 else -1).toInt = if x.toInt > y.toInt then 1 else if x = y then 0 else -1 := by
  by_cases q : x > y
  · have q' : x.toInt > y.toInt := Int64.lt_iff_toInt_lt.mp q
    rw [if_pos q, if_pos q']; rfl
  · have q' : ¬ x.toInt > y.toInt := fun z => q (Int64.lt_iff_toInt_lt.mpr z)
    rw [if_neg q, if_neg q']
    by_cases r : x = y
    · rw [if_pos r, if_pos r]; rfl
    · rw [if_neg r, if_neg r]; rfl
theorem hL2 {x y : Int64} : ((if x > y then (1 : Int32) else if x = y then 0 else -1).toInt = 1 ∧ x.toInt > y.toInt) ∨ ((if x > y then (1 : Int32) else if x = y then 0 else -1) = 0 ∧ x = y ∧ x.toInt = y.toInt) ∨ ((if x > y then (1 : Int32) else if x = y then 0 else -1).toInt = -1 ∧ x.toInt < y.toInt) := by
  by_cases q : x.toInt > y.toInt
  · left; rw [hL, if_pos q]; exact ⟨rfl, q⟩
  · by_cases r : x = y
    · right; left; subst r; exact ⟨by rw [if_neg (fun z => q (Int64.lt_iff_toInt_lt.mp z)), if_pos rfl], rfl, rfl⟩
    · right; right; rw [hL, if_neg q, if_neg r]; refine ⟨rfl, ?_⟩
      have : x.toInt ≠ y.toInt := fun z => r (Int64.toInt_inj.mp z)
      omega
theorem w_lcif_eq (X : Sn Z n0 bs mx own nm ret p l e R s m args below meth c T h cells slots) {x y : Int64} (hd : decode bs pc = .ok (.lcmp, 1)) (hd2 : decode bs pc' = .ok (.ifCond .eq o, 3)) (hp : pc + 1 = pc' ∧ 0 ≤ (pc' : Int) + o ∧ ((pc' : Int) + o).toNat = pc1 ∧ pc' + 3 = pc2)
    (yes : x = y → W p e below s R n0 Q (T.setTop (mkF m pc1 Ls (st)))) (no : x ≠ y → W p e below s R n0 Q (T.setTop (mkF m pc2 Ls (st)))) : W p e below s R n0 Q (T.setTop (mkF m pc Ls (.long y :: .long x :: st))) := by
  have X' := X
  obtain ⟨locs, X, eT, N, hs0, hcl, hsl, hx, hZ, rfl, hml, hown, hnm, hret, hlk⟩ := X
  refine W.of (fun t k => XS.lcmp X.here hx rfl hd rfl k) ?_
  have e1 : pc + 1 = pc' := hp.1
  show W p e below s R n0 Q (T.setTop (mkF m (pc + 1) Ls (.int (if x > y then 1 else if x = y then 0 else -1) :: st)))
  rw [e1]
  refine w_if_eq X' hd2 hp.2 (fun z => yes ?_) (fun z => no ?_)
  all_goals rcases hL2 (x := x) (y := y) with ⟨q1, q2⟩ | ⟨q1, rfl, -⟩ | ⟨q1, q2⟩
  all_goals first | rfl | exact Int.le_refl _ | (exfalso; rw [z] at q1; revert q1; decide) | (exfalso; exact z q1) | (exfalso; rw [q1] at z; revert z; decide) | (intro u; subst u; exact absurd q2 (Int.lt_irrefl _)) | omega
theorem w_lcif_ne (X : Sn Z n0 bs mx own nm ret p l e R s m args below meth c T h cells slots) {x y : Int64} (hd : decode bs pc = .ok (.lcmp, 1)) (hd2 : decode bs pc' = .ok (.ifCond .ne o, 3)) (hp : pc + 1 = pc' ∧ 0 ≤ (pc' : Int) + o ∧ ((pc' : Int) + o).toNat = pc1 ∧ pc' + 3 = pc2)
    (yes : x ≠ y → W p e below s R n0 Q (T.setTop (mkF m pc1 Ls (st)))) (no : x = y → W p e below s R n0 Q (T.setTop (mkF m pc2 Ls (st)))) : W p e below s R n0 Q (T.setTop (mkF m pc Ls (.long y :: .long x :: st))) := by
  have X' := X
  obtain ⟨locs, X, eT, N, hs0, hcl, hsl, hx, hZ, rfl, hml, hown, hnm, hret, hlk⟩ := X
  refine W.of (fun t k => XS.lcmp X.here hx rfl hd rfl k) ?_
  have e1 : pc + 1 = pc' := hp.1
  show W p e below s R n0 Q (T.setTop (mkF m (pc + 1) Ls (.int (if x > y then 1 else if x = y then 0 else -1) :: st)))
  rw [e1]
  refine w_if_ne X' hd2 hp.2 (fun z => yes ?_) (fun z => no ?_)
  all_goals rcases hL2 (x := x) (y := y) with ⟨q1, q2⟩ | ⟨q1, rfl, -⟩ | ⟨q1, q2⟩
  all_goals first | rfl | exact Int.le_refl _ | (exfalso; rw [z] at q1; revert q1; decide) | (exfalso; exact z q1) | (exfalso; rw [q1] at z; revert z; decide) | (intro u; subst u; exact absurd q2 (Int.lt_irrefl _)) | omega
theorem w_lcif_lt (X : Sn Z n0 bs mx own nm ret p l e R s m args below meth c T h cells slots) {x y : Int64} (hd : decode bs pc = .ok (.lcmp, 1)) (hd2 : decode bs pc' = .ok (.ifCond .lt o, 3)) (hp : pc + 1 = pc' ∧ 0 ≤ (pc' : Int) + o ∧ ((pc' : Int) + o).toNat = pc1 ∧ pc' + 3 = pc2)
    (yes : x.toInt < y.toInt → W p e below s R n0 Q (T.setTop (mkF m pc1 Ls (st)))) (no : x.toInt ≥ y.toInt → W p e below s R n0 Q (T.setTop (mkF m pc2 Ls (st)))) : W p e below s R n0 Q (T.setTop (mkF m pc Ls (.long y :: .long x :: st))) := by
  have X' := X
  obtain ⟨locs, X, eT, N, hs0, hcl, hsl, hx, hZ, rfl, hml, hown, hnm, hret, hlk⟩ := X
  refine W.of (fun t k => XS.lcmp X.here hx rfl hd rfl k) ?_
  have e1 : pc + 1 = pc' := hp.1
  show W p e below s R n0 Q (T.setTop (mkF m (pc + 1) Ls (.int (if x > y then 1 else if x = y then 0 else -1) :: st)))
  rw [e1]
  refine w_if_lt X' hd2 hp.2 (fun z => yes ?_) (fun z => no ?_)
  all_goals rcases hL2 (x := x) (y := y) with ⟨q1, q2⟩ | ⟨q1, rfl, -⟩ | ⟨q1, q2⟩
  all_goals first | rfl | exact Int.le_refl _ | (exfalso; rw [z] at q1; revert q1; decide) | (exfalso; exact z q1) | (exfalso; rw [q1] at z; revert z; decide) | (intro u; subst u; exact absurd q2 (Int.lt_irrefl _)) | omega
theorem w_lcif_ge (X : Sn Z n0 bs mx own nm ret p l e R s m args below meth c T h cells slots) {x y : Int64} (hd : decode bs pc = .ok (.lcmp, 1)) (hd2 : decode bs pc' = .ok (.ifCond .ge o, 3)) (hp : pc + 1 = pc' ∧ 0 ≤ (pc' : Int) + o ∧ ((pc' : Int) + o).toNat = pc1 ∧ pc' + 3 = pc2)
    (yes : x.toInt ≥ y.toInt → W p e below s R n0 Q (T.setTop (mkF m pc1 Ls (st)))) (no : x.toInt < y.toInt → W p e below s R n0 Q (T.setTop (mkF m pc2 Ls (st)))) : W p e below s R n0 Q (T.setTop (mkF m pc Ls (.long y :: .long x :: st))) := by
  have X' := X
  obtain ⟨locs, X, eT, N, hs0, hcl, hsl, hx, hZ, rfl, hml, hown, hnm, hret, hlk⟩ := X
  refine W.of (fun t k => XS.lcmp X.here hx rfl hd rfl k) ?_
  have e1 : pc + 1 = pc' := hp.1
  show W p e below s R n0 Q (T.setTop (mkF m (pc + 1) Ls (.int (if x > y then 1 else if x = y then 0 else -1) :: st)))
  rw [e1]
  refine w_if_ge X' hd2 hp.2 (fun z => yes ?_) (fun z => no ?_)
  all_goals rcases hL2 (x := x) (y := y) with ⟨q1, q2⟩ | ⟨q1, rfl, -⟩ | ⟨q1, q2⟩
  all_goals first | rfl | exact Int.le_refl _ | (exfalso; rw [z] at q1; revert q1; decide) | (exfalso; exact z q1) | (exfalso; rw [q1] at z; revert z; decide) | (intro u; subst u; exact absurd q2 (Int.lt_irrefl _)) | omega
theorem w_lcif_gt (X : Sn Z n0 bs mx own nm ret p l e R s m args below meth c T h cells slots) {x y : Int64} (hd : decode bs pc = .ok (.lcmp, 1)) (hd2 : decode bs pc' = .ok (.ifCond .gt o, 3)) (hp : pc + 1 = pc' ∧ 0 ≤ (pc' : Int) + o ∧ ((pc' : Int) + o).toNat = pc1 ∧ pc' + 3 = pc2)
    (yes : x.toInt > y.toInt → W p e below s R n0 Q (T.setTop (mkF m pc1 Ls (st)))) (no : x.toInt ≤ y.toInt → W p e below s R n0 Q (T.setTop (mkF m pc2 Ls (st)))) : W p e below s R n0 Q (T.setTop (mkF m pc Ls (.long y :: .long x :: st))) := by
  have X' := X
  obtain ⟨locs, X, eT, N, hs0, hcl, hsl, hx, hZ, rfl, hml, hown, hnm, hret, hlk⟩ := X
  refine W.of (fun t k => XS.lcmp X.here hx rfl hd rfl k) ?_
  have e1 : pc + 1 = pc' := hp.1
  show W p e below s R n0 Q (T.setTop (mkF m (pc + 1) Ls (.int (if x > y then 1 else if x = y then 0 else -1) :: st)))
  rw [e1]
  refine w_if_gt X' hd2 hp.2 (fun z => yes ?_) (fun z => no ?_)
  all_goals rcases hL2 (x := x) (y := y) with ⟨q1, q2⟩ | ⟨q1, rfl, -⟩ | ⟨q1, q2⟩
  all_goals first | rfl | exact Int.le_refl _ | (exfalso; rw [z] at q1; revert q1; decide) | (exfalso; exact z q1) | (exfalso; rw [q1] at z; revert z; decide) | (intro u; subst u; exact absurd q2 (Int.lt_irrefl _)) | omega
theorem w_lcif_le (X : Sn Z n0 bs mx own nm ret p l e R s m args below meth c T h cells slots) {x y : Int64} (hd : decode bs pc = .ok (.lcmp, 1)) (hd2 : decode bs pc' = .ok (.ifCond .le o, 3)) (hp : pc + 1 = pc' ∧ 0 ≤ (pc' : Int) + o ∧ ((pc' : Int) + o).toNat = pc1 ∧ pc' + 3 = pc2)
    (yes : x.toInt ≤ y.toInt → W p e below s R n0 Q (T.setTop (mkF m pc1 Ls (st)))) (no : x.toInt > y.toInt → W p e below s R n0 Q (T.setTop (mkF m pc2 Ls (st)))) : W p e below s R n0 Q (T.setTop (mkF m pc Ls (.long y :: .long x :: st))) := by
  have X' := X
  obtain ⟨locs, X, eT, N, hs0, hcl, hsl, hx, hZ, rfl, hml, hown, hnm, hret, hlk⟩ := X
  refine W.of (fun t k => XS.lcmp X.here hx rfl hd rfl k) ?_
  have e1 : pc + 1 = pc' := hp.1
  show W p e below s R n0 Q (T.setTop (mkF m (pc + 1) Ls (.int (if x > y then 1 else if x = y then 0 else -1) :: st)))
  rw [e1]
  refine w_if_le X' hd2 hp.2 (fun z => yes ?_) (fun z => no ?_)
  all_goals rcases hL2 (x := x) (y := y) with ⟨q1, q2⟩ | ⟨q1, rfl, -⟩ | ⟨q1, q2⟩
  all_goals first | rfl | exact Int.le_refl _ | (exfalso; rw [z] at q1; revert q1; decide) | (exfalso; exact z q1) | (exfalso; rw [q1] at z; revert z; decide) | (intro u; subst u; exact absurd q2 (Int.lt_irrefl _)) | omega
theorem w_ifnull_ref (X : Sn Z n0 bs mx own nm ret p l e R s m args below meth c T h cells slots) {b : Addr} (hd : decode bs pc = .ok (.ifnull o, 3)) (hp : pc + 3 = pc')
    (w : W p e below s R n0 Q (T.setTop (mkF m pc' Ls (st)))) : W p e below s R n0 Q (T.setTop (mkF m pc Ls (.ref b :: st))) := by
  obtain ⟨locs, X, eT, N, hs0, hcl, hsl, hx, hZ, rfl, hml, hown, hnm, hret, hlk⟩ := X
  subst hp
  exact W.of (fun t k => XS.ifnullNo X.here hx rfl hd rfl k) w
theorem w_ifnull_null (X : Sn Z n0 bs mx own nm ret p l e R s m args below meth c T h cells slots) (hd : decode bs pc = .ok (.ifnull o, 3)) (hp : 0 ≤ (pc : Int) + o ∧ ((pc : Int) + o).toNat = pc')
    (w : W p e below s R n0 Q (T.setTop (mkF m pc' Ls (st)))) : W p e below s R n0 Q (T.setTop (mkF m pc Ls (.null :: st))) := by
  obtain ⟨locs, X, eT, N, hs0, hcl, hsl, hx, hZ, rfl, hml, hown, hnm, hret, hlk⟩ := X
  exact W.of (fun t k => XS.ifnullYes X.here hx rfl rfl hd rfl hp.1 hp.2 k) w
theorem idxOf {j : Int32} {i n : Nat} {cl : Cell} (q : j.toInt = i) (hi : i < n) (hn : cl.slots.size = n) : ¬ (j < 0 ∨ cl.slots.size ≤ j.toNatClampNeg) ∧ j.toNatClampNeg = i := by
  have e : j.toNatClampNeg = i := by simp only [Int32.toNatClampNeg]; omega
  refine ⟨?_, e⟩
  rw [e, hn, Int32.lt_iff_toInt_lt]
  have : (0 : Int32).toInt = 0 := rfl
  omega
theorem w_iaload (X : Sn Z n0 bs mx own nm ret p l e R s m args below meth c T h cells slots) {a : Addr} {n i : Nat} {f : Nat → Value} {j : Int32} {v : Value} (F : AF Z h a .int n f) (hd : decode bs pc = .ok (.iaload, 1)) (hj : j.toInt = i) (hi : i < n) (hv : f i = v) (hp : pc + 1 = pc')
    (w : W p e below s R n0 Q (T.setTop (mkF m pc' Ls (v :: st)))) : W p e below s R n0 Q (T.setTop (mkF m pc Ls (.int j :: .ref a :: st))) := by
  obtain ⟨locs, X, eT, N, hs0, hcl, hsl, hx, hZ, rfl, hml, hown, hnm, hret, hlk⟩ := X
  obtain ⟨cl, A, r1, r2, r3⟩ := F
  obtain ⟨q1, q2⟩ := idxOf (cl := cl) hj hi r1
  subst hp hv eT
  exact W.of (fun t k => X.iaload hx (j := j) (v := f i) A.1 (State.isArrayOf_alike hZ.alike A.2.1) A.2.2 q1 (by rw [q2]; exact r3 i hi) (g := mkF m pc Ls (.int j :: .ref a :: st)) rfl rfl hd _ k) w
theorem w_laload (X : Sn Z n0 bs mx own nm ret p l e R s m args below meth c T h cells slots) {a : Addr} {n i : Nat} {f : Nat → Value} {j : Int32} {v : Value} (F : AF Z h a .long n f) (hd : decode bs pc = .ok (.laload, 1)) (hj : j.toInt = i) (hi : i < n) (hv : f i = v) (hp : pc + 1 = pc')
    (w : W p e below s R n0 Q (T.setTop (mkF m pc' Ls (v :: st)))) : W p e below s R n0 Q (T.setTop (mkF m pc Ls (.int j :: .ref a :: st))) := by
  obtain ⟨locs, X, eT, N, hs0, hcl, hsl, hx, hZ, rfl, hml, hown, hnm, hret, hlk⟩ := X
  obtain ⟨cl, A, r1, r2, r3⟩ := F
  obtain ⟨q1, q2⟩ := idxOf (cl := cl) hj hi r1
  subst hp hv eT
  exact W.of (fun t k => X.laload hx (j := j) (v := f i) A.1 (State.isArrayOf_alike hZ.alike A.2.1) A.2.2 q1 (by rw [q2]; exact r3 i hi) (g := mkF m pc Ls (.int j :: .ref a :: st)) rfl rfl hd _ k) w
theorem w_baloadB (X : Sn Z n0 bs mx own nm ret p l e R s m args below meth c T h cells slots) {a : Addr} {n i : Nat} {f : Nat → Value} {j : Int32} {v : Value} (F : AF Z h a .byte n f) (hd : decode bs pc = .ok (.baload, 1)) (hj : j.toInt = i) (hi : i < n) (hv : f i = v) (hp : pc + 1 = pc')
    (w : W p e below s R n0 Q (T.setTop (mkF m pc' Ls (v :: st)))) : W p e below s R n0 Q (T.setTop (mkF m pc Ls (.int j :: .ref a :: st))) := by
  obtain ⟨locs, X, eT, N, hs0, hcl, hsl, hx, hZ, rfl, hml, hown, hnm, hret, hlk⟩ := X
  obtain ⟨cl, A, r1, r2, r3⟩ := F
  obtain ⟨q1, q2⟩ := idxOf (cl := cl) hj hi r1
  subst hp hv eT
  exact W.of (fun t k => X.baloadBytes hx (j := j) (v := f i) A.1 (State.isArrayOf_alike hZ.alike A.2.1) A.2.2 q1 (by rw [q2]; exact r3 i hi) (g := mkF m pc Ls (.int j :: .ref a :: st)) rfl rfl hd _ k) w
theorem w_baloadZ (X : Sn Z n0 bs mx own nm ret p l e R s m args below meth c T h cells slots) {a : Addr} {n i : Nat} {f : Nat → Value} {j : Int32} {v : Value} (F : AF Z h a .boolean n f) (hd : decode bs pc = .ok (.baload, 1)) (hj : j.toInt = i) (hi : i < n) (hv : f i = v) (hp : pc + 1 = pc')
    (w : W p e below s R n0 Q (T.setTop (mkF m pc' Ls (v :: st)))) : W p e below s R n0 Q (T.setTop (mkF m pc Ls (.int j :: .ref a :: st))) := by
  obtain ⟨locs, X, eT, N, hs0, hcl, hsl, hx, hZ, rfl, hml, hown, hnm, hret, hlk⟩ := X
  obtain ⟨cl, A, r1, r2, r3⟩ := F
  obtain ⟨q1, q2⟩ := idxOf (cl := cl) hj hi r1
  subst hp hv eT
  exact W.of (fun t k => X.baloadBooleans hx (j := j) (v := f i) A.1 (State.isArrayOf_alike hZ.alike A.2.1) A.2.2 q1 (by rw [q2]; exact r3 i hi) (g := mkF m pc Ls (.int j :: .ref a :: st)) rfl rfl hd _ k) w
theorem w_iastore (X : Sn Z n0 bs mx own nm ret p l e R s m args below meth c T h cells slots) {a : Addr} {n i : Nat} {f : Nat → Value} {j : Int32} {x : Int32} (F : AF Z h a .int n f) (hd : decode bs pc = .ok (.iastore, 1)) (hj : j.toInt = i) (hi : i < n) (hp : pc + 1 = pc') (ha : n0 ≤ a)
    (w : ∀ T' h', Sn Z n0 bs mx own nm ret p l e R s m args below meth c T' h' cells slots → Wr h h' a i (.int x) → W p e below s R n0 Q (T'.setTop (mkF m pc' Ls (st)))) : W p e below s R n0 Q (T.setTop (mkF m pc Ls (.int x :: .int j :: .ref a :: st))) := by
  obtain ⟨locs, X, eT, N, hs0, hcl, hsl, hx, hZ, rfl, hml, hown, hnm, hret, hlk⟩ := X
  obtain ⟨cl, A, r1, r2, r3⟩ := F
  obtain ⟨q1, q2⟩ := idxOf (cl := cl) hj hi r1
  subst hp
  obtain ⟨T', h', X', e', W', st'⟩ := stI X hx hZ eT A (j := j) q1 (g := mkF m pc Ls (.int x :: .int j :: .ref a :: st)) rfl rfl hd
  rw [q2] at X' W'
  exact W.of st' (w T' h' ⟨_, X', e', Fr.snoc X' N ha, by rw [W'.size]; exact hs0, hcl, hsl, hx, hZ, rfl, hml, hown, hnm, hret, hlk⟩ W')
theorem w_lastore (X : Sn Z n0 bs mx own nm ret p l e R s m args below meth c T h cells slots) {a : Addr} {n i : Nat} {f : Nat → Value} {j : Int32} {x : Int64} (F : AF Z h a .long n f) (hd : decode bs pc = .ok (.lastore, 1)) (hj : j.toInt = i) (hi : i < n) (hp : pc + 1 = pc') (ha : n0 ≤ a)
    (w : ∀ T' h', Sn Z n0 bs mx own nm ret p l e R s m args below meth c T' h' cells slots → Wr h h' a i (.long x) → W p e below s R n0 Q (T'.setTop (mkF m pc' Ls (st)))) : W p e below s R n0 Q (T.setTop (mkF m pc Ls (.long x :: .int j :: .ref a :: st))) := by
  obtain ⟨locs, X, eT, N, hs0, hcl, hsl, hx, hZ, rfl, hml, hown, hnm, hret, hlk⟩ := X
  obtain ⟨cl, A, r1, r2, r3⟩ := F
  obtain ⟨q1, q2⟩ := idxOf (cl := cl) hj hi r1
  subst hp
  obtain ⟨T', h', X', e', W', st'⟩ := stJ X hx hZ eT A (j := j) q1 (g := mkF m pc Ls (.long x :: .int j :: .ref a :: st)) rfl rfl hd
  rw [q2] at X' W'
  exact W.of st' (w T' h' ⟨_, X', e', Fr.snoc X' N ha, by rw [W'.size]; exact hs0, hcl, hsl, hx, hZ, rfl, hml, hown, hnm, hret, hlk⟩ W')
theorem w_bastoreB (X : Sn Z n0 bs mx own nm ret p l e R s m args below meth c T h cells slots) {a : Addr} {n i : Nat} {f : Nat → Value} {j : Int32} {x : Int32} (F : AF Z h a .byte n f) (hd : decode bs pc = .ok (.bastore, 1)) (hj : j.toInt = i) (hi : i < n) (hp : pc + 1 = pc') (ha : n0 ≤ a)
    (w : ∀ T' h', Sn Z n0 bs mx own nm ret p l e R s m args below meth c T' h' cells slots → Wr h h' a i (.int (x.toInt8.toInt32)) → W p e below s R n0 Q (T'.setTop (mkF m pc' Ls (st)))) : W p e below s R n0 Q (T.setTop (mkF m pc Ls (.int x :: .int j :: .ref a :: st))) := by
  obtain ⟨locs, X, eT, N, hs0, hcl, hsl, hx, hZ, rfl, hml, hown, hnm, hret, hlk⟩ := X
  obtain ⟨cl, A, r1, r2, r3⟩ := F
  obtain ⟨q1, q2⟩ := idxOf (cl := cl) hj hi r1
  subst hp
  obtain ⟨T', h', X', e', W', st'⟩ := stB X hx hZ eT A (j := j) q1 (g := mkF m pc Ls (.int x :: .int j :: .ref a :: st)) rfl rfl hd
  rw [q2] at X' W'
  exact W.of st' (w T' h' ⟨_, X', e', Fr.snoc X' N ha, by rw [W'.size]; exact hs0, hcl, hsl, hx, hZ, rfl, hml, hown, hnm, hret, hlk⟩ W')
theorem w_bastoreZ (X : Sn Z n0 bs mx own nm ret p l e R s m args below meth c T h cells slots) {a : Addr} {n i : Nat} {f : Nat → Value} {j : Int32} {x : Int32} (F : AF Z h a .boolean n f) (hd : decode bs pc = .ok (.bastore, 1)) (hj : j.toInt = i) (hi : i < n) (hp : pc + 1 = pc') (ha : n0 ≤ a)
    (w : ∀ T' h', Sn Z n0 bs mx own nm ret p l e R s m args below meth c T' h' cells slots → Wr h h' a i (.int (x &&& 1)) → W p e below s R n0 Q (T'.setTop (mkF m pc' Ls (st)))) : W p e below s R n0 Q (T.setTop (mkF m pc Ls (.int x :: .int j :: .ref a :: st))) := by
  obtain ⟨locs, X, eT, N, hs0, hcl, hsl, hx, hZ, rfl, hml, hown, hnm, hret, hlk⟩ := X
  obtain ⟨cl, A, r1, r2, r3⟩ := F
  obtain ⟨q1, q2⟩ := idxOf (cl := cl) hj hi r1
  subst hp
  obtain ⟨T', h', X', e', W', st'⟩ := stZ X hx hZ eT A (j := j) q1 (g := mkF m pc Ls (.int x :: .int j :: .ref a :: st)) rfl rfl hd
  rw [q2] at X' W'
  exact W.of st' (w T' h' ⟨_, X', e', Fr.snoc X' N ha, by rw [W'.size]; exact hs0, hcl, hsl, hx, hZ, rfl, hml, hown, hnm, hret, hlk⟩ W')
theorem w_arraylength (X : Sn Z n0 bs mx own nm ret p l e R s m args below meth c T h cells slots) {a : Addr} {ty : FieldType} {n : Nat} {f : Nat → Value} {z : Int32} (F : AF Z h a ty n f) (hd : decode bs pc = .ok (.arraylength, 1)) (hz : z.toInt = n) (hp : pc + 1 = pc')
    (w : W p e below s R n0 Q (T.setTop (mkF m pc' Ls (.int z :: st)))) : W p e below s R n0 Q (T.setTop (mkF m pc Ls (.ref a :: st))) := by
  obtain ⟨locs, X, eT, N, hs0, hcl, hsl, hx, hZ, rfl, hml, hown, hnm, hret, hlk⟩ := X
  obtain ⟨cl, A, r1, r2, r3⟩ := F
  subst hp eT
  have e1 : cl.slots.size.toInt32 = z := Int32.toInt_inj.mp (by rw [len_toInt (by rw [r1]; exact r2), hz, r1])
  rw [← e1] at w
  exact W.of (fun t k => X.arraylength hx A.1 (State.isArrayOf_alike hZ.alike A.2.1) (g := mkF m pc Ls (.ref a :: st)) rfl rfl hd _ k) w
theorem w_newarray (X : Sn Z n0 bs mx own nm ret p l e R s m args below meth c T h cells slots) {aty : ArrayType} {z : Int32} {n cap : Nat} (hd : decode bs pc = .ok (.newarray aty, 2)) (w0 : (Cond.arrayClass (newarray.typeOf aty)).before a0 Z = true) (hz : z.toInt = n) (hcap : n ≤ cap) (hr : cap * 8 ≤ 536870912 ∧ cells + 1 ≤ R.cells ∧ slots + cap ≤ R.slots ∧ pc + 2 = pc')
    (w : ∀ T' h' b, Sn Z n0 bs mx own nm ret p l e R s m args below meth c T' h' (cells + 1) (slots + cap) → Ext h h' → b = h.size → n0 ≤ b → AF Z h' b (newarray.typeOf aty) n (fun _ => defaultValue (newarray.typeOf aty)) → W p e below s R n0 Q (T'.setTop (mkF m pc' Ls (.ref b :: st)))) : W p e below s R n0 Q (T.setTop (mkF m pc Ls (.int z :: st))) := by
  obtain ⟨locs, X, eT, N, hs0, hcl, hsl, hx, hZ, rfl, hml, hown, hnm, hret, hlk⟩ := X
  have hn : ¬ z < 0 := by rw [Int32.lt_iff_toInt_lt]; have : (0 : Int32).toInt = 0 := rfl; omega
  obtain ⟨T', h', cA, X', e', E', A', st'⟩ := newP X hx hZ w0 eT (g := mkF m pc Ls (.int z :: st)) rfl hd rfl hn (cap := cap) (by simp only [Int32.toNatClampNeg]; omega) hr.1 hr.2.1 hr.2.2.1
  obtain ⟨-, hr2, hr3, hp⟩ := hr
  subst hp
  exact W.of st' (w T' h' _ ⟨_, X', e', N, Nat.le_trans hs0 E'.1, hr2, hr3, hx, hZ, rfl, hml, hown, hnm, hret, hlk⟩ E' rfl hs0 (AF.new A' hz))
theorem w_ireturn (X : Sn Z n0 bs mx own nm ret p l e R s m args below meth c T h cells slots) {v : Int32} (hd : decode bs pc = .ok (.ireturn, 1)) (hq : ret = some .int) (q : Q (some (.int v)) h) : W p e below s R n0 Q (T.setTop (mkF m pc Ls (.int v :: st))) := by
  obtain ⟨locs, X, eT, N, hs0, hcl, hsl, hx, hZ, rfl, hml, hown, hnm, hret, hlk⟩ := X
  obtain ⟨fs, hr, hrun, hended, hW, hsame⟩ := X.leave (v := some (.int v)) (fun u => by rw [hret, hq] at u; cases u) hlk
  exact ⟨_, _, retOut X hx (hret.trans hq) rfl (Or.inl ⟨rfl, Or.inl rfl, _, rfl⟩) hd hr, hrun, hended, _, locs, rfl, ⟨N, by rw [← eT] at hs0; exact hs0, by rw [← eT] at q; exact q⟩, ⟨_, rfl⟩, hW, hsame.mono hcl hsl⟩
theorem w_lreturn (X : Sn Z n0 bs mx own nm ret p l e R s m args below meth c T h cells slots) {v : Int64} (hd : decode bs pc = .ok (.lreturn, 1)) (hq : ret = some .long) (q : Q (some (.long v)) h) : W p e below s R n0 Q (T.setTop (mkF m pc Ls (.long v :: st))) := by
  obtain ⟨locs, X, eT, N, hs0, hcl, hsl, hx, hZ, rfl, hml, hown, hnm, hret, hlk⟩ := X
  obtain ⟨fs, hr, hrun, hended, hW, hsame⟩ := X.leave (v := some (.long v)) (fun u => by rw [hret, hq] at u; cases u) hlk
  exact ⟨_, _, retOut X hx (hret.trans hq) rfl (Or.inr (Or.inl ⟨rfl, rfl, _, rfl⟩)) hd hr, hrun, hended, _, locs, rfl, ⟨N, by rw [← eT] at hs0; exact hs0, by rw [← eT] at q; exact q⟩, ⟨_, rfl⟩, hW, hsame.mono hcl hsl⟩
theorem w_areturn (X : Sn Z n0 bs mx own nm ret p l e R s m args below meth c T h cells slots) {v : Value} {t : FieldType} (hd : decode bs pc = .ok (.areturn, 1)) (hq : ret = some t) (ht : t.isReference = true) (hv : v.isRef = true) (hn : narrow t v = v) (q : Q (some v) h) : W p e below s R n0 Q (T.setTop (mkF m pc Ls (v :: st))) := by
  obtain ⟨locs, X, eT, N, hs0, hcl, hsl, hx, hZ, rfl, hml, hown, hnm, hret, hlk⟩ := X
  obtain ⟨fs, hr, hrun, hended, hW, hsame⟩ := X.leave (v := some v) (fun u => by rw [hret, hq] at u; cases u) hlk
  exact ⟨_, _, retOut X hx (hret.trans hq) hn (Or.inr (Or.inr (Or.inr (Or.inr ⟨rfl, ht, hv⟩)))) hd hr, hrun, hended, _, locs, rfl, ⟨N, by rw [← eT] at hs0; exact hs0, by rw [← eT] at q; exact q⟩, ⟨_, rfl⟩, hW, hsame.mono hcl hsl⟩
theorem w_nreturn (X : Sn Z n0 bs mx own nm ret p l e R s m args below meth c T h cells slots) {v : Int32} {t : FieldType} (hd : decode bs pc = .ok (.ireturn, 1)) (hq : ret = some t) (ht : t = .boolean ∨ t = .byte ∨ t = .char ∨ t = .short) (q : Q (some (.int (nar t v))) h) : W p e below s R n0 Q (T.setTop (mkF m pc Ls (.int v :: st))) := by
  obtain ⟨locs, X, eT, N, hs0, hcl, hsl, hx, hZ, rfl, hml, hown, hnm, hret, hlk⟩ := X
  obtain ⟨fs, hr, hrun, hended, hW, hsame⟩ := X.leave (v := some (.int (nar t v))) (fun u => by rw [hret, hq] at u; cases u) hlk
  exact ⟨_, _, retN X hx (hret.trans hq) ht hd hr, hrun, hended, _, locs, rfl, ⟨N, by rw [← eT] at hs0; exact hs0, by rw [← eT] at q; exact q⟩, ⟨_, rfl⟩, hW, hsame.mono hcl hsl⟩
theorem w_return (X : Sn Z n0 bs mx own nm ret p l e R s m args below meth c T h cells slots) (hd : decode bs pc = .ok (.return_, 1)) (hq : ret = none) (q : Q (none) h) : W p e below s R n0 Q (T.setTop (mkF m pc Ls ([]))) := by
  obtain ⟨locs, X, eT, N, hs0, hcl, hsl, hx, hZ, rfl, hml, hown, hnm, hret, hlk⟩ := X
  obtain ⟨fs, hr, hrun, hended, hW, hsame⟩ := X.leave (v := none) (fun _ => rfl) hlk
  exact ⟨_, _, X.returnOut hx (hret.trans hq) hd hr, hrun, hended, _, locs, rfl, ⟨N, by rw [← eT] at hs0; exact hs0, by rw [← eT] at q; exact q⟩, ⟨_, rfl⟩, hW, hsame.mono hcl hsl⟩
theorem w_callS (X : Sn Z n0 bs mx own nm ret p l e R s m args below meth c T h cells slots) {index : Nat} {y : MethodName} {b2 : ByteArray} {m2 : Nat} {r2 : Option FieldType} {R2 : Room} {argsL rest : List Value} {wd : Nat} {ps : List FieldType} {r3 : Option FieldType} {Q2 : Option Value → Heap → Prop} 
    (hd : decode bs pc = .ok (.invokestatic index, 3)) (w1 : (Cond.methodLink own index y).before a0 Z = true) (w2 : (Cond.static y).before a0 Z = true) (w3 : (Cond.initialized y.cls).before a0 Z = true) (w4 : (Cond.code y b2 m2 r2).before a0 Z = true)
    (hy : y.cls ≠ "java/lang/invoke/MethodHandle" ∧ y.cls ≠ "java/lang/invoke/VarHandle") (C : Ct l Z y b2 m2 r2 [] R2 argsL.toArray h n0 Q2) (hpd : parseMethodDescriptor y.desc = some ⟨ps, r3⟩) (hlen : argsL.length = ps.length)
    (hst : st = argsL.reverse ++ rest) (hsz : Ls.size = mx) (hwd : (rest.map fun v => v.category).sum ≤ wd) (hr : R2.frames + 1 ≤ R.frames ∧ wd + (m2 + 11) + R2.locals ≤ R.locals ∧ cells + R2.cells ≤ R.cells ∧ slots + R2.slots ≤ R.slots ∧ pc + 3 = pc')
    (w : ∀ v T' h', Sn Z n0 bs mx own nm ret p l e R s m args below meth c T' h' (cells + R2.cells) (slots + R2.slots) → Q2 v h' → W p e below s R n0 Q (T'.setTop (mkF m pc' Ls (v.toList ++ rest)))) : W p e below s R n0 Q (T.setTop (mkF m pc Ls (st))) := by
  obtain ⟨locs, X, eT, N, hs0, hcl, hsl, hx, hZ, rfl, hml, hown, hnm, hret, hlk⟩ := X
  obtain ⟨hr1, hr2, hr3, hr4, hp⟩ := hr
  obtain ⟨v, vm1, ⟨T', L', k', n'⟩, -, X', ⟨Lc, hQ, l', y', z'⟩, st'⟩ := Jvm.LawKit.callS X hx (y := y) hown (mvT hZ w1) (mvT hZ w2) (mvT hZ w3) (mvT hZ w4) hy (backOf (W := wd) (Q := Qc n0 Q2) C hZ w4 w3 hr1 hr2) (g := mkF m pc Ls st) rfl (hsz.trans hml.symm) (argsL := argsL) (rest := rest) (lenOf hpd hlen) hst (by show 2 * 0 + _ ≤ _; omega) hd (fun _ _ => ⟨rfl, eT, hr3, hr4⟩)
  dsimp only [Pt.U, Pt.locs, Pt.cells, Pt.slots] at X' l' y' z' st' hQ
  subst l' y' z' hp
  exact W.of st' (w v T' T'.heap ⟨_, X', rfl, Fr.app N hQ.1, hQ.2.1, hr3, hr4, hx, hZ, rfl, hml, hown, hnm, hret, hlk⟩ hQ.2.2)
theorem w_callC (X : Sn Z n0 bs mx own nm ret p l e R s m args below meth c T h cells slots) {index : Nat} {y : MethodName} {b2 : ByteArray} {m2 : Nat} {R2 : Room} {argsL rest : List Value} {wd : Nat} {ps : List FieldType} {r3 : Option FieldType} {Q2 : Option Value → Heap → Prop} {a : Addr} (hy1 : y.name = "<init>")
    (hd : decode bs pc = .ok (.invokespecial index, 3)) (w1 : (Cond.methodLink own index y).before a0 Z = true) (w2 : (Cond.instanceMethod y).before a0 Z = true) (w3 : (Cond.initialized y.cls).before a0 Z = true) (w4 : (Cond.code y b2 m2 none).before a0 Z = true)
    (hy : y.cls ≠ "java/lang/invoke/MethodHandle" ∧ y.cls ≠ "java/lang/invoke/VarHandle") (C : Ct l Z y b2 m2 none [] R2 (.ref a :: argsL).toArray h n0 Q2) (hpd : parseMethodDescriptor y.desc = some ⟨ps, r3⟩) (hlen : argsL.length = ps.length)
    (hst : st = argsL.reverse ++ .ref a :: rest) (hsz : Ls.size = mx) (hwd : (rest.map fun v => v.category).sum ≤ wd) (hr : R2.frames + 1 ≤ R.frames ∧ wd + (m2 + 11) + R2.locals ≤ R.locals ∧ cells + R2.cells ≤ R.cells ∧ slots + R2.slots ≤ R.slots ∧ pc + 3 = pc')
    (w : ∀ v T' h', Sn Z n0 bs mx own nm ret p l e R s m args below meth c T' h' (cells + R2.cells) (slots + R2.slots) → Q2 v h' → W p e below s R n0 Q (T'.setTop (mkF m pc' Ls (v.toList ++ rest)))) : W p e below s R n0 Q (T.setTop (mkF m pc Ls (st))) := by
  obtain ⟨locs, X, eT, N, hs0, hcl, hsl, hx, hZ, rfl, hml, hown, hnm, hret, hlk⟩ := X
  obtain ⟨hr1, hr2, hr3, hr4, hp⟩ := hr
  obtain ⟨v, vm1, ⟨T', L', k', n'⟩, -, X', ⟨Lc, hQ, l', y', z'⟩, st'⟩ := X.specialBack hx (y := y) hy1 hown (mvT hZ w1) (mvT hZ w2) (mvT hZ w4) hy (backOf (W := wd) (Q := Qc n0 Q2) C hZ w4 w3 hr1 hr2) (g := mkF m pc Ls st) rfl (hsz.trans hml.symm) (Steps.refl _) (a := a) (argsL := argsL) (rest := rest) (lenOf hpd hlen) hst (by show 2 * 0 + _ ≤ _; omega) hd (fun _ _ => ⟨rfl, eT, hr3, hr4⟩)
  dsimp only [Pt.U, Pt.locs, Pt.cells, Pt.slots] at X' l' y' z' st' hQ
  subst l' y' z' hp
  exact W.fwd st' (w v T' T'.heap ⟨_, X', rfl, Fr.app N hQ.1, hQ.2.1, hr3, hr4, hx, hZ, rfl, hml, hown, hnm, hret, hlk⟩ hQ.2.2)
theorem w_callV (X : Sn Z n0 bs mx own nm ret p l e R s m args below meth c T h cells slots) {index : Nat} {y : MethodName} {b2 : ByteArray} {m2 : Nat} {r2 : Option FieldType} {R2 : Room} {argsL rest : List Value} {wd : Nat} {ps : List FieldType} {r3 : Option FieldType} {Q2 : Option Value → Heap → Prop} {a : Addr} {K : String} (E : Exa Z h a K)
    (hd : decode bs pc = .ok (.invokevirtual index, 3)) (w1 : (Cond.methodLink own index y).before a0 Z = true) (wd0 : (Cond.declares y).before a0 Z = true) (ws0 : (Cond.selects K y y).before a0 Z = true) (w2 : (Cond.instanceMethod y).before a0 Z = true) (w3 : (Cond.initialized y.cls).before a0 Z = true) (w4 : (Cond.code y b2 m2 r2).before a0 Z = true)
    (hy : y.cls ≠ "java/lang/invoke/MethodHandle" ∧ y.cls ≠ "java/lang/invoke/VarHandle") (C : Ct l Z y b2 m2 r2 [] R2 (.ref a :: argsL).toArray h n0 Q2) (hpd : parseMethodDescriptor y.desc = some ⟨ps, r3⟩) (hlen : argsL.length = ps.length)
    (hst : st = argsL.reverse ++ .ref a :: rest) (hsz : Ls.size = mx) (hwd : (rest.map fun v => v.category).sum ≤ wd) (hr : R2.frames + 1 ≤ R.frames ∧ wd + (m2 + 11) + R2.locals ≤ R.locals ∧ cells + R2.cells ≤ R.cells ∧ slots + R2.slots ≤ R.slots ∧ pc + 3 = pc')
    (w : ∀ v T' h', Sn Z n0 bs mx own nm ret p l e R s m args below meth c T' h' (cells + R2.cells) (slots + R2.slots) → Q2 v h' → W p e below s R n0 Q (T'.setTop (mkF m pc' Ls (v.toList ++ rest)))) : W p e below s R n0 Q (T.setTop (mkF m pc Ls (st))) := by
  obtain ⟨locs, X, eT, N, hs0, hcl, hsl, hx, hZ, rfl, hml, hown, hnm, hret, hlk⟩ := X
  obtain ⟨hr1, hr2, hr3, hr4, hp⟩ := hr
  obtain ⟨cq, kq, qa, qb, qc⟩ := isOf hZ eT E
  obtain ⟨v, vm1, ⟨T', L', k', n'⟩, -, X', ⟨Lc, hQ, l', y', z'⟩, st'⟩ := X.virtualBack hx (y := y) (z := y) hown (mvT hZ w1) (mvT hZ wd0) (notFace_of_selects (args := #[]) (mvT hZ ws0)) (mvT hZ ws0) (mvT hZ w2) hy (backOf (W := wd) (Q := Qc n0 Q2) C hZ w4 w3 hr1 hr2) qa qc (g := mkF m pc Ls st) rfl (hsz.trans hml.symm) (Steps.refl _) (argsL := argsL) (rest := rest) (lenOf hpd hlen) hst (by show 2 * 0 + _ ≤ _; omega) hd (fun _ _ => ⟨rfl, eT, hr3, hr4⟩)
  dsimp only [Pt.U, Pt.locs, Pt.cells, Pt.slots] at X' l' y' z' st' hQ
  subst l' y' z' hp
  exact W.fwd st' (w v T' T'.heap ⟨_, X', rfl, Fr.app N hQ.1, hQ.2.1, hr3, hr4, hx, hZ, rfl, hml, hown, hnm, hret, hlk⟩ hQ.2.2)
theorem w_initO (X : Sn Z n0 bs mx own nm ret p l e R s m args below meth c T h cells slots) {idx : Nat} {a : Addr} {wd : Nat} (hd : decode bs pc = .ok (.invokespecial idx, 3)) (w1 : (Cond.methodLink own idx Lib.objectInit).before a0 Z = true) (w2 : (Cond.instanceMethod Lib.objectInit).before a0 Z = true) (w3 : (Cond.code Lib.objectInit ⟨#[0xb1]⟩ 1 none).before a0 Z = true)
    (hsz : Ls.size = mx) (hwd : (st.map fun v => v.category).sum ≤ wd) (hr : 1 ≤ R.frames ∧ wd + 12 ≤ R.locals ∧ pc + 3 = pc') (w : ∀ T', Sn Z n0 bs mx own nm ret p l e R s m args below meth c T' h cells slots → W p e below s R n0 Q (T'.setTop (mkF m pc' Ls (st)))) : W p e below s R n0 Q (T.setTop (mkF m pc Ls (.ref a :: st))) := by
  obtain ⟨locs, X, eT, N, hs0, hcl, hsl, hx, hZ, rfl, hml, hown, hnm, hret, hlk⟩ := X
  obtain ⟨hr1, hr2, hp⟩ := hr
  subst hp
  obtain ⟨T', X', e', st'⟩ := initO X hx hZ hown w1 w2 w3 eT (g := mkF m pc Ls (.ref a :: st)) rfl (hsz.trans hml.symm) rfl hd hr1 (W := wd) (by show 2 * 0 + _ ≤ _; omega) hr2
  exact W.of st' (w T' ⟨_, X', e', N, hs0, hcl, hsl, hx, hZ, rfl, hml, hown, hnm, hret, hlk⟩)
theorem w_getfield (X : Sn Z n0 bs mx own nm ret p l e R s m args below meth c T h cells slots) {R0 O n d : String} {index : Nat} {a : Addr} {v : Value} (F : Fld Z h a O n d v) (hd : decode bs pc = .ok (.getfield index, 3)) (w1 : (Cond.fieldLink own index R0 n d).before a0 Z = true) (via : Via Z R0 O n d) (hp : pc + 3 = pc')
    (w : ∀ T', Sn Z n0 bs mx own nm ret p l e R s m args below meth c T' h cells slots → W p e below s R n0 Q (T'.setTop (mkF m pc' Ls (v :: st)))) : W p e below s R n0 Q (T.setTop (mkF m pc Ls (.ref a :: st))) := by
  obtain ⟨locs, X, eT, N, hs0, hcl, hsl, hx, hZ, rfl, hml, hown, hnm, hret, hlk⟩ := X
  subst hp
  obtain ⟨T', X', e', st'⟩ := getF X hx hZ hown (host := "") (Or.inl w1) via eT F (g := mkF m pc Ls (.ref a :: st)) rfl rfl hd
  exact W.of st' (w T' ⟨_, X', e', N, hs0, hcl, hsl, hx, hZ, rfl, hml, hown, hnm, hret, hlk⟩)
theorem w_putfield (X : Sn Z n0 bs mx own nm ret p l e R s m args below meth c T h cells slots) {R0 O n d K : String} {index kk : Nat} {ty : FieldType} {a : Addr} {v v' old : Value} (F : Fld Z h a O n d old) (E : Exa Z h a K) (hd : decode bs pc = .ok (.putfield index, 3)) (w1 : (Cond.fieldLink own index R0 n d).before a0 Z = true) (via : Via Z R0 O n d)
    (L : (Cond.lays K O n d).before a0 Z = true ∨ ((Cond.laysFinal K O n d).before a0 Z = true ∧ own = O ∧ nm = "<init>")) (wi : (Cond.instantiable K kk).before a0 Z = true) (hty : parseFieldDescriptor d = some ty) (hn : narrow ty v = v') (hf : fits ty v' = true) (hp : pc + 3 = pc') (ha : n0 ≤ a)
    (w : ∀ T' h', Sn Z n0 bs mx own nm ret p l e R s m args below meth c T' h' cells slots → Wr h h' a (Jvm.RoadKit.slotOf Z O n d) v' → W p e below s R n0 Q (T'.setTop (mkF m pc' Ls (st)))) : W p e below s R n0 Q (T.setTop (mkF m pc Ls (v :: .ref a :: st))) := by
  obtain ⟨locs, X, eT, N, hs0, hcl, hsl, hx, hZ, rfl, hml, hown, hnm, hret, hlk⟩ := X
  subst hp
  obtain ⟨T', h', X', e', W', st'⟩ := putFN X hx hZ hown w1 via eT F E (L.imp id fun q => ⟨q.1, q.2.1, hnm.trans q.2.2⟩) wi hty hn hf (g := mkF m pc Ls (v :: .ref a :: st)) rfl rfl hd
  exact W.of st' (w T' h' ⟨_, X', e', Fr.snoc X' N ha, by rw [W'.size]; exact hs0, hcl, hsl, hx, hZ, rfl, hml, hown, hnm, hret, hlk⟩ W')
theorem w_new (X : Sn Z n0 bs mx own nm ret p l e R s m args below meth c T h cells slots) {K : String} {index kk : Nat} (hd : decode bs pc = .ok (.new index, 3)) (w1 : (Cond.classLink own index K).before a0 Z = true) (wi : (Cond.instantiable K kk).before a0 Z = true) (wz : (Cond.initialized K).before a0 Z = true) (hr : cells + 1 ≤ R.cells ∧ slots + kk ≤ R.slots ∧ pc + 3 = pc')
    (w : ∀ T' h' b, Sn Z n0 bs mx own nm ret p l e R s m args below meth c T' h' (cells + 1) (slots + kk) → Ext h h' → b = h.size → n0 ≤ b → Exa Z h' b K → (∀ {O nm d : String} {ty : FieldType}, Laid Z a0 K O nm d → parseFieldDescriptor d = some ty → Fld Z h' b O nm d (defaultValue ty)) → W p e below s R n0 Q (T'.setTop (mkF m pc' Ls (.ref b :: st)))) : W p e below s R n0 Q (T.setTop (mkF m pc Ls (st))) := by
  obtain ⟨locs, X, eT, N, hs0, hcl, hsl, hx, hZ, rfl, hml, hown, hnm, hret, hlk⟩ := X
  obtain ⟨hr1, hr2, hp⟩ := hr
  subst hp
  obtain ⟨T', h', X', e', E', A', D', -, st'⟩ := newO X hx hZ hown w1 wi wz eT (g := mkF m pc Ls st) rfl hd hr1 hr2
  exact W.of st' (w T' h' _ ⟨_, X', e', N, Nat.le_trans hs0 E'.1, hr1, hr2, hx, hZ, rfl, hml, hown, hnm, hret, hlk⟩ E' rfl hs0 A' D')
end
end Jvm.OwnW
namespace Jvm.Pilot.@@N@@
open Jvm Jvm.ClassFile Sem Op Lib Jvm.Free Jvm.Stand Jvm.LawKit Jvm.RoadKit Bundle Jvm.OwnW Jvm.Pilot.@@N@@.Jvm.D

def own_min (a b : Int32) : Int32 := if a.toInt ≤ b.toInt then a else b
def own_fits (g l : Int32) : Int32 := if g = l ∨ g = (l - 32).toInt8.toInt32 then 1 else 0
def own_low (c : Int32) : Int32 := if 65 ≤ c.toInt ∧ c.toInt ≤ 90 then c ||| 32 else c
def own_l3 (a b c : Int32) : Nat → Int32 := fun j => if j = 0 then a else if j = 1 then b else c
def own_w (tx wl : Nat → Int32) (fr : Nat) : Int32 := if own_low (tx fr) = wl 0 ∧ own_low (tx (fr + 1)) = wl 1 ∧ own_low (tx (fr + 2)) = wl 2 then 1 else 0
theorem own_lo1 {c : Int32} (h1 : c.toInt ≥ 65) (h2 : c.toInt ≤ 90) : own_low c = c ||| 32 := if_pos ⟨h1, h2⟩
theorem own_lo2 {c : Int32} (h : c.toInt < 65) : own_low c = c := if_neg (by omega)
theorem own_lo3 {c : Int32} (h : c.toInt > 90) : own_low c = c := if_neg (by omega)
theorem own_or : ∀ n : Nat, n < 26 → (Int32.ofNat (65 + n) ||| 32).toInt = 97 + n := by decide +kernel
theorem own_nar : ∀ n : Nat, n < 26 → ((Int32.ofNat (97 + n) - 32).toInt8.toInt32) = Int32.ofNat (65 + n) := by decide +kernel
theorem own_i {i : Nat} (h : i < 2 ^ 31) : (Int32.ofNat i).toInt = i := Int32.toInt_ofNat_small h
theorem own_of {x : Int32} {n : Nat} (h : x.toInt = n) : x = Int32.ofNat n := Int32.toInt_inj.mp (by rw [h, own_i (by have := x.toInt_lt; omega)])
theorem own_key {c l : Int32} (h1 : 97 ≤ l.toInt) (h2 : l.toInt ≤ 122) : (c = l ∨ c = (l - 32).toInt8.toInt32) ↔ own_low c = l := by
  obtain ⟨n, hn⟩ : ∃ n : Nat, l.toInt = ((97 + n : Nat) : Int) := ⟨(l.toInt - 97).toNat, by omega⟩
  have el := own_of hn
  have er : (l - 32).toInt8.toInt32 = Int32.ofNat (65 + n) := by rw [el]; exact own_nar n (by omega)
  rw [er]
  have e65 : (Int32.ofNat (65 + n)).toInt = ((65 + n : Nat) : Int) := own_i (by omega)
  by_cases q : 65 ≤ c.toInt ∧ c.toInt ≤ 90
  · obtain ⟨k, hk⟩ : ∃ k : Nat, c.toInt = ((65 + k : Nat) : Int) := ⟨(c.toInt - 65).toNat, by omega⟩
    have ec := own_of hk
    have eo : (c ||| 32).toInt = 97 + k := by rw [ec]; exact own_or k (by omega)
    rw [own_lo1 q.1 q.2]
    constructor
    · rintro (z | z)
      · rw [z] at q; omega
      · apply Int32.toInt_inj.mp; rw [eo, hn]; rw [z, e65] at hk; omega
    · intro z
      right
      apply Int32.toInt_inj.mp; rw [e65, hk]
      rw [z, hn] at eo; omega
  · have e : own_low c = c := if_neg q
    rw [e]
    constructor
    · rintro (z | z)
      · exact z
      · exfalso; rw [z, e65] at q; omega
    · exact Or.inl
theorem own_f0 {c l : Int32} (h1 : 97 ≤ l.toInt) (h2 : l.toInt ≤ 122) (q : own_fits c l = 0) : own_low c ≠ l := fun z => by
  unfold own_fits at q; rw [if_pos ((own_key h1 h2).mpr z)] at q; exact absurd q (by decide)
theorem own_f1 {c l : Int32} (h1 : 97 ≤ l.toInt) (h2 : l.toInt ≤ 122) (q : own_fits c l ≠ 0) : own_low c = l := by
  unfold own_fits at q
  by_cases z : (c = l ∨ c = (l - 32).toInt8.toInt32)
  · exact (own_key h1 h2).mp z
  · rw [if_neg z] at q; exact absurd rfl q
theorem own_b : ∀ n : Nat, n < 26 → ((97 + Int32.ofNat n).toInt8.toInt32.toInt8.toInt32).toInt = 97 + n := by decide +kernel
theorem own_let {y : Int32} (h : 0 ≤ y.toInt) : 97 ≤ ((97 + y % 26).toInt8.toInt32.toInt8.toInt32).toInt ∧ ((97 + y % 26).toInt8.toInt32.toInt8.toInt32).toInt ≤ 122 := by
  have e : (y % 26).toInt = y.toInt % 26 := Jvm.Kit.i32_rem_nonneg h
  obtain ⟨n, hn⟩ : ∃ n : Nat, (y % 26).toInt = (n : Int) := ⟨(y % 26).toInt.toNat, by omega⟩
  rw [own_of hn, own_b n (by omega)]; omega
theorem own_m (s : Int32) : 0 ≤ (s &&& 2147483647).toInt := by
  have e1 : (s &&& 2147483647).toInt = s.toInt % 2 ^ 31 := Jvm.Kit.i32_mask s 2147483647 (k := 31) (by decide) (by decide)
  omega
theorem own_d {u : Int32} (h : 0 ≤ u.toInt) {k : Int32} (hk : 0 < k.toInt) : 0 ≤ (u / k).toInt := by
  rw [Jvm.Kit.i32_div (by omega)]; exact Int.tdiv_nonneg h (by omega)
theorem own_from (f : Int32) : ∃ fr : Nat, ((f &&& 2147483647) % 6).toInt = fr ∧ fr ≤ 5 := by
  have e2 : ((f &&& 2147483647) % 6).toInt = (f &&& 2147483647).toInt % 6 := Jvm.Kit.i32_rem_nonneg (own_m f)
  exact ⟨((f &&& 2147483647) % 6).toInt.toNat, by omega, by omega⟩
theorem own_sub {a b : Int32} : (a + b) - a = b := by rw [Int32.add_comm, Int32.add_sub_cancel]
theorem own_len {l fv : Int32} {fr : Nat} (h1 : fv.toInt = fr) (h2 : fr ≤ 5) (h : own_min (l &&& 7) (5 - fv) = 3) : fr + 3 ≤ 5 := by
  have e : (5 - fv).toInt = 5 - fv.toInt := Jvm.Kit.i32_sub (p := 5) (by show -2 ^ 31 ≤ 5 - fv.toInt; omega) (by show 5 - fv.toInt < 2 ^ 31; omega)
  have e3 : (3 : Int32).toInt = 3 := rfl
  unfold own_min at h
  split at h
  · rename_i q; rw [h] at q; omega
  · rw [h] at e; omega
theorem own_add {fv : Int32} {fr : Nat} (h1 : fv.toInt = fr) (h2 : fr ≤ 5) (k : Int32) {kk : Nat} (hk : k.toInt = kk) (h3 : kk ≤ 3) : (fv + k).toInt = ((fr + kk : Nat) : Int) := by
  have e : (fv + k).toInt = fv.toInt + k.toInt := Jvm.Kit.i32_add (by omega) (by omega)
  omega
theorem own_w1 {tx wl : Nat → Int32} {fr : Nat} (h0 : own_low (tx fr) = wl 0) (h1 : own_low (tx (fr + 1)) = wl 1) (h2 : own_low (tx (fr + 2)) = wl 2) : own_w tx wl fr = 1 := if_pos ⟨h0, h1, h2⟩
theorem own_w0 {tx wl : Nat → Int32} {fr : Nat} (h : own_low (tx fr) ≠ wl 0 ∨ own_low (tx (fr + 1)) ≠ wl 1 ∨ own_low (tx (fr + 2)) ≠ wl 2) : own_w tx wl fr = 0 := if_neg fun q => by
  rcases h with h | h | h
  · exact h q.1
  · exact h q.2.1
  · exact h q.2.2

def own_5 (a b c d e : Int32) : Nat → Int32 := fun j => if j = 0 then a else if j = 1 then b else if j = 2 then c else if j = 3 then d else e

theorem d1_0 : decode jdk_29_method_69_code 0 = .ok (.iload_n 0, 1) := by decide +kernel
theorem d1_1 : decode jdk_29_method_69_code 1 = .ok (.iload_n 1, 1) := by decide +kernel
theorem d1_2 : decode jdk_29_method_69_code 2 = .ok (.if_icmp .gt 7, 3) := by decide +kernel
theorem d1_5 : decode jdk_29_method_69_code 5 = .ok (.iload_n 0, 1) := by decide +kernel
theorem d1_6 : decode jdk_29_method_69_code 6 = .ok (.goto 4, 3) := by decide +kernel
theorem d1_9 : decode jdk_29_method_69_code 9 = .ok (.iload_n 1, 1) := by decide +kernel
theorem d1_10 : decode jdk_29_method_69_code 10 = .ok (.ireturn, 1) := by decide +kernel
theorem rm1_ef (m : MethodId) (a : Int32) (b : Int32) : entryFrame m #[(.int a), (.int b)] 2 = mkF m 0 #[.val (.int a), .val (.int b)] [] := by first | (simp [entryFrame, mkF, argsToLocals, Value.category]; done) | rfl
abbrev rm1_Q (Z : State) (a : Int32) (b : Int32) (h0 : Heap) (n0 : Nat) : Option Value → Heap → Prop := fun v h => v = some (.int (own_min a b)) ∧ h0 = h
set_option maxRecDepth 65536 in
set_option maxHeartbeats 40000000 in
theorem rm1 (l : Launch) (Z : State) (a0 : Array Value) (hw : ∀ d ∈ tables_1, d.before a0 Z = true) (ws : List Jvm.Cond) (a : Int32) (b : Int32) (h : Heap) (n0 : Nat) (hn0 : n0 ≤ h.size) :
    Ct l Z (⟨"java/lang/Math", "min", "(II)I"⟩ : MethodName) jdk_29_method_69_code 2 (some .int) ws ({ frames := 0, cells := 0, slots := 0, locals := 0 } : Room) #[(.int a), (.int b)] h n0 (rm1_Q Z a b h n0) := by
  refine Ct.of (Jvm.Free.JP.mathPlain rfl (by decide +kernel)) hn0 (fun m => rm1_ef m a b) ?_
  intro p e s m below meth c T0 X0
  replace X0 : Sn Z n0 jdk_29_method_69_code 2 "java/lang/Math" "min" (some .int) p l e ({ frames := 0, cells := 0, slots := 0, locals := 0 } : Room) s m #[(.int a), (.int b)] below meth c T0 h 0 0 := X0
  refine w_iloadN (pc' := 1) X0 d1_0 rfl rfl ?_
  refine w_iloadN (pc' := 2) X0 d1_1 rfl rfl ?_
  refine w_icmp_gt (pc1 := 9) (pc2 := 5) X0 d1_2 (by decide) (fun (hc2 : a.toInt > b.toInt) => ?_) (fun (hc2 : a.toInt ≤ b.toInt) => ?_)
  · refine w_iloadN (pc' := 10) X0 d1_9 rfl rfl ?_
    exact w_ireturn X0 d1_10 rfl (⟨by unfold own_min; rw [if_neg (Int.not_le.mpr hc2)], rfl⟩)
  · refine w_iloadN (pc' := 6) X0 d1_5 rfl rfl ?_
    refine w_goto (pc' := 10) X0 d1_6 (by decide) ?_
    exact w_ireturn X0 d1_10 rfl (⟨by unfold own_min; rw [if_pos hc2], rfl⟩)
theorem d3_0 : decode method_2_code 0 = .ok (.iload_n 0, 1) := by decide +kernel
theorem d3_1 : decode method_2_code 1 = .ok (.iload_n 1, 1) := by decide +kernel
theorem d3_2 : decode method_2_code 2 = .ok (.if_icmp .eq 12, 3) := by decide +kernel
theorem d3_5 : decode method_2_code 5 = .ok (.iload_n 0, 1) := by decide +kernel
theorem d3_6 : decode method_2_code 6 = .ok (.iload_n 1, 1) := by decide +kernel
theorem d3_7 : decode method_2_code 7 = .ok (.bipush 32, 2) := by decide +kernel
theorem d3_9 : decode method_2_code 9 = .ok (.isub, 1) := by decide +kernel
theorem d3_10 : decode method_2_code 10 = .ok (.i2b, 1) := by decide +kernel
theorem d3_11 : decode method_2_code 11 = .ok (.if_icmp .ne 7, 3) := by decide +kernel
theorem d3_14 : decode method_2_code 14 = .ok (.iconst 1, 1) := by decide +kernel
theorem d3_15 : decode method_2_code 15 = .ok (.goto 4, 3) := by decide +kernel
theorem d3_18 : decode method_2_code 18 = .ok (.iconst 0, 1) := by decide +kernel
theorem d3_19 : decode method_2_code 19 = .ok (.ireturn, 1) := by decide +kernel
theorem pn_3 : plainName "com/example/partitioner/partitioner/schema/ValueTextIsWordPinLaw" = true := by first | (simp [plainName, overriddenIn]; done) | decide +kernel
theorem rm3_ef (m : MethodId) (g1 : Int32) (l1 : Int32) : entryFrame m #[(.int g1), (.int l1)] 2 = mkF m 0 #[.val (.int g1), .val (.int l1)] [] := by first | (simp [entryFrame, mkF, argsToLocals, Value.category]; done) | rfl
abbrev rm3_Q (Z : State) (g1 : Int32) (l1 : Int32) (h0 : Heap) (n0 : Nat) : Option Value → Heap → Prop := fun v h => v = some (.int (own_fits g1 l1)) ∧ h0 = h
set_option maxRecDepth 65536 in
set_option maxHeartbeats 40000000 in
theorem rm3 (l : Launch) (Z : State) (a0 : Array Value) (hw : ∀ d ∈ tables_1, d.before a0 Z = true) (ws : List Jvm.Cond) (g1 : Int32) (l1 : Int32) (h : Heap) (n0 : Nat) (hn0 : n0 ≤ h.size) :
    Ct l Z (⟨"com/example/partitioner/partitioner/schema/ValueTextIsWordPinLaw", "fits", "(BB)Z"⟩ : MethodName) method_2_code 2 (some .boolean) ws ({ frames := 0, cells := 0, slots := 0, locals := 0 } : Room) #[(.int g1), (.int l1)] h n0 (rm3_Q Z g1 l1 h n0) := by
  refine Ct.of (plainFor_of_name pn_3) hn0 (fun m => rm3_ef m g1 l1) ?_
  intro p e s m below meth c T0 X0
  replace X0 : Sn Z n0 method_2_code 2 "com/example/partitioner/partitioner/schema/ValueTextIsWordPinLaw" "fits" (some .boolean) p l e ({ frames := 0, cells := 0, slots := 0, locals := 0 } : Room) s m #[(.int g1), (.int l1)] below meth c T0 h 0 0 := X0
  refine w_iloadN (pc' := 1) X0 d3_0 rfl rfl ?_
  refine w_iloadN (pc' := 2) X0 d3_1 rfl rfl ?_
  refine w_icmp_eq (pc1 := 14) (pc2 := 5) X0 d3_2 (by decide) (fun (hc2 : g1 = l1) => ?_) (fun (hc2 : g1 ≠ l1) => ?_)
  · refine w_iconst (pc' := 15) (z := (1 : Int32)) X0 d3_14 rfl rfl ?_
    refine w_goto (pc' := 19) X0 d3_15 (by decide) ?_
    exact w_nreturn (t := .boolean) X0 d3_19 rfl (by simp) (⟨by first | (unfold own_fits; rw [if_pos (Or.inl hc2)]; rfl) | (unfold own_fits; rw [if_pos (Or.inr hc11)]; rfl) | (unfold own_fits; rw [if_neg (fun q => q.elim hc2 hc11)]; rfl), rfl⟩)
  · refine w_iloadN (pc' := 6) X0 d3_5 rfl rfl ?_
    refine w_iloadN (pc' := 7) X0 d3_6 rfl rfl ?_
    refine w_bipush (pc' := 9) (z := (32 : Int32)) X0 d3_7 rfl rfl ?_
    refine w_isub (pc' := 10) X0 d3_9 rfl ?_
    refine w_i2b (pc' := 11) X0 d3_10 rfl ?_
    refine w_icmp_ne (pc1 := 18) (pc2 := 14) X0 d3_11 (by decide) (fun (hc11 : g1 ≠ (l1 - (32 : Int32)).toInt8.toInt32) => ?_) (fun (hc11 : g1 = (l1 - (32 : Int32)).toInt8.toInt32) => ?_)
    · refine w_iconst (pc' := 19) (z := (0 : Int32)) X0 d3_18 rfl rfl ?_
      exact w_nreturn (t := .boolean) X0 d3_19 rfl (by simp) (⟨by first | (unfold own_fits; rw [if_pos (Or.inl hc2)]; rfl) | (unfold own_fits; rw [if_pos (Or.inr hc11)]; rfl) | (unfold own_fits; rw [if_neg (fun q => q.elim hc2 hc11)]; rfl), rfl⟩)
    · refine w_iconst (pc' := 15) (z := (1 : Int32)) X0 d3_14 rfl rfl ?_
      refine w_goto (pc' := 19) X0 d3_15 (by decide) ?_
      exact w_nreturn (t := .boolean) X0 d3_19 rfl (by simp) (⟨by first | (unfold own_fits; rw [if_pos (Or.inl hc2)]; rfl) | (unfold own_fits; rw [if_pos (Or.inr hc11)]; rfl) | (unfold own_fits; rw [if_neg (fun q => q.elim hc2 hc11)]; rfl), rfl⟩)
theorem d2_0 : decode method_3_code 0 = .ok (.iload_n 0, 1) := by decide +kernel
theorem d2_1 : decode method_3_code 1 = .ok (.iload_n 1, 1) := by decide +kernel
theorem d2_2 : decode method_3_code 2 = .ok (.isub, 1) := by decide +kernel
theorem d2_3 : decode method_3_code 3 = .ok (.istore 6, 2) := by decide +kernel
theorem d2_5 : decode method_3_code 5 = .ok (.iload_n 3, 1) := by decide +kernel
theorem d2_6 : decode method_3_code 6 = .ok (.iconst 2, 1) := by decide +kernel
theorem d2_7 : decode method_3_code 7 = .ok (.iload_n 0, 1) := by decide +kernel
theorem d2_8 : decode method_3_code 8 = .ok (.imul, 1) := by decide +kernel
theorem d2_9 : decode method_3_code 9 = .ok (.iushr, 1) := by decide +kernel
theorem d2_10 : decode method_3_code 10 = .ok (.iconst 3, 1) := by decide +kernel
theorem d2_11 : decode method_3_code 11 = .ok (.iand, 1) := by decide +kernel
theorem d2_12 : decode method_3_code 12 = .ok (.istore 7, 2) := by decide +kernel
theorem d2_14 : decode method_3_code 14 = .ok (.iload 6, 2) := by decide +kernel
theorem d2_16 : decode method_3_code 16 = .ok (.ifCond .lt 34, 3) := by decide +kernel
theorem d2_19 : decode method_3_code 19 = .ok (.iload 6, 2) := by decide +kernel
theorem d2_21 : decode method_3_code 21 = .ok (.iconst 3, 1) := by decide +kernel
theorem d2_22 : decode method_3_code 22 = .ok (.if_icmp .ge 28, 3) := by decide +kernel
theorem d2_25 : decode method_3_code 25 = .ok (.iload 7, 2) := by decide +kernel
theorem d2_27 : decode method_3_code 27 = .ok (.ifCond .ne 8, 3) := by decide +kernel
theorem d2_30 : decode method_3_code 30 = .ok (.aload_n 2, 1) := by decide +kernel
theorem d2_31 : decode method_3_code 31 = .ok (.iload 6, 2) := by decide +kernel
theorem d2_33 : decode method_3_code 33 = .ok (.baload, 1) := by decide +kernel
theorem d2_34 : decode method_3_code 34 = .ok (.ireturn, 1) := by decide +kernel
theorem d2_35 : decode method_3_code 35 = .ok (.iload 7, 2) := by decide +kernel
theorem d2_37 : decode method_3_code 37 = .ok (.iconst 1, 1) := by decide +kernel
theorem d2_38 : decode method_3_code 38 = .ok (.if_icmp .ne 12, 3) := by decide +kernel
theorem d2_41 : decode method_3_code 41 = .ok (.aload_n 2, 1) := by decide +kernel
theorem d2_42 : decode method_3_code 42 = .ok (.iload 6, 2) := by decide +kernel
theorem d2_44 : decode method_3_code 44 = .ok (.baload, 1) := by decide +kernel
theorem d2_45 : decode method_3_code 45 = .ok (.bipush 32, 2) := by decide +kernel
theorem d2_47 : decode method_3_code 47 = .ok (.isub, 1) := by decide +kernel
theorem d2_48 : decode method_3_code 48 = .ok (.i2b, 1) := by decide +kernel
theorem d2_49 : decode method_3_code 49 = .ok (.ireturn, 1) := by decide +kernel
theorem d2_50 : decode method_3_code 50 = .ok (.lload 4, 2) := by decide +kernel
theorem d2_52 : decode method_3_code 52 = .ok (.bipush 8, 2) := by decide +kernel
theorem d2_54 : decode method_3_code 54 = .ok (.iload_n 0, 1) := by decide +kernel
theorem d2_55 : decode method_3_code 55 = .ok (.imul, 1) := by decide +kernel
theorem d2_56 : decode method_3_code 56 = .ok (.lushr, 1) := by decide +kernel
theorem d2_57 : decode method_3_code 57 = .ok (.l2i, 1) := by decide +kernel
theorem d2_58 : decode method_3_code 58 = .ok (.i2b, 1) := by decide +kernel
theorem d2_59 : decode method_3_code 59 = .ok (.ireturn, 1) := by decide +kernel
theorem rm2_ef (m : MethodId) (i1 : Int32) (f1 : Int32) (aw : Addr) (m1 : Int32) (r1 : Int64) : entryFrame m #[(.int i1), (.int f1), (.ref aw), (.int m1), (.long r1)] 8 = mkF m 0 #[.val (.int i1), .val (.int f1), .val (.ref aw), .val (.int m1), .val (.long r1), .second, .unset, .unset] [] := by first | (simp [entryFrame, mkF, argsToLocals, Value.category]; done) | rfl
abbrev rm2_Q (Z : State) (i1 : Int32) (f1 : Int32) (aw : Addr) (m1 : Int32) (r1 : Int64) (wl : Nat → Int32) (h0 : Heap) (n0 : Nat) : Option Value → Heap → Prop := fun v h => ∃ z : Int32, v = some (.int z) ∧ h0 = h
set_option maxRecDepth 65536 in
set_option maxHeartbeats 40000000 in
theorem rm2 (l : Launch) (Z : State) (a0 : Array Value) (hw : ∀ d ∈ tables_1, d.before a0 Z = true) (ws : List Jvm.Cond) (i1 : Int32) (f1 : Int32) (aw : Addr) (m1 : Int32) (r1 : Int64) (wl : Nat → Int32) (h : Heap) (n0 : Nat) (hn0 : n0 ≤ h.size) (A1 : AF Z h aw .byte 3 (fun j => .int (wl j))) :
    Ct l Z (⟨"com/example/partitioner/partitioner/schema/ValueTextIsWordPinLaw", "cell", "(II[BIJ)B"⟩ : MethodName) method_3_code 8 (some .byte) ws ({ frames := 0, cells := 0, slots := 0, locals := 0 } : Room) #[(.int i1), (.int f1), (.ref aw), (.int m1), (.long r1)] h n0 (rm2_Q Z i1 f1 aw m1 r1 wl h n0) := by
  refine Ct.of (plainFor_of_name pn_3) hn0 (fun m => rm2_ef m i1 f1 aw m1 r1) ?_
  intro p e s m below meth c T0 X0
  replace X0 : Sn Z n0 method_3_code 8 "com/example/partitioner/partitioner/schema/ValueTextIsWordPinLaw" "cell" (some .byte) p l e ({ frames := 0, cells := 0, slots := 0, locals := 0 } : Room) s m #[(.int i1), (.int f1), (.ref aw), (.int m1), (.long r1)] below meth c T0 h 0 0 := X0
  refine w_iloadN (pc' := 1) X0 d2_0 rfl rfl ?_
  refine w_iloadN (pc' := 2) X0 d2_1 rfl rfl ?_
  refine w_isub (pc' := 3) X0 d2_2 rfl ?_
  obtain ⟨kd, hkd⟩ : ∃ z : Int32, z = (i1 - f1) := ⟨_, rfl⟩
  refine w_topI hkd.symm ?_
  refine w_istore (pc' := 5) (L' := #[.val (.int i1), .val (.int f1), .val (.ref aw), .val (.int m1), .val (.long r1), .second, .val (.int kd), .unset]) X0 d2_3 rfl rfl ?_
  refine w_iloadN (pc' := 6) X0 d2_5 rfl rfl ?_
  refine w_iconst (pc' := 7) (z := (2 : Int32)) X0 d2_6 rfl rfl ?_
  refine w_iloadN (pc' := 8) X0 d2_7 rfl rfl ?_
  refine w_imul (pc' := 9) X0 d2_8 rfl ?_
  refine w_iushr (pc' := 10) X0 d2_9 rfl ?_
  refine w_iconst (pc' := 11) (z := (3 : Int32)) X0 d2_10 rfl rfl ?_
  refine w_iand (pc' := 12) X0 d2_11 rfl ?_
  obtain ⟨md, hmd⟩ : ∃ z : Int32, z = ((ius m1 ((2 : Int32) * i1)) &&& (3 : Int32)) := ⟨_, rfl⟩
  refine w_topI hmd.symm ?_
  refine w_istore (pc' := 14) (L' := #[.val (.int i1), .val (.int f1), .val (.ref aw), .val (.int m1), .val (.long r1), .second, .val (.int kd), .val (.int md)]) X0 d2_12 rfl rfl ?_
  refine w_iload (pc' := 16) X0 d2_14 rfl rfl ?_
  refine w_if_lt (pc1 := 50) (pc2 := 19) X0 d2_16 (by decide) (fun (hc16 : kd.toInt < (0 : Int)) => ?_) (fun (hc16 : kd.toInt ≥ (0 : Int)) => ?_)
  · refine w_lload (pc' := 52) X0 d2_50 rfl rfl ?_
    refine w_bipush (pc' := 54) (z := (8 : Int32)) X0 d2_52 rfl rfl ?_
    refine w_iloadN (pc' := 55) X0 d2_54 rfl rfl ?_
    refine w_imul (pc' := 56) X0 d2_55 rfl ?_
    refine w_lushr (pc' := 57) X0 d2_56 rfl ?_
    refine w_l2i (pc' := 58) X0 d2_57 rfl ?_
    refine w_i2b (pc' := 59) X0 d2_58 rfl ?_
    exact w_nreturn (t := .byte) X0 d2_59 rfl (by simp) (⟨_, rfl, rfl⟩)
  · refine w_iload (pc' := 21) X0 d2_19 rfl rfl ?_
    refine w_iconst (pc' := 22) (z := (3 : Int32)) X0 d2_21 rfl rfl ?_
    refine w_icmp_ge (pc1 := 50) (pc2 := 25) X0 d2_22 (by decide) (fun (hc22 : kd.toInt ≥ (3 : Int)) => ?_) (fun (hc22 : kd.toInt < (3 : Int)) => ?_)
    · refine w_lload (pc' := 52) X0 d2_50 rfl rfl ?_
      refine w_bipush (pc' := 54) (z := (8 : Int32)) X0 d2_52 rfl rfl ?_
      refine w_iloadN (pc' := 55) X0 d2_54 rfl rfl ?_
      refine w_imul (pc' := 56) X0 d2_55 rfl ?_
      refine w_lushr (pc' := 57) X0 d2_56 rfl ?_
      refine w_l2i (pc' := 58) X0 d2_57 rfl ?_
      refine w_i2b (pc' := 59) X0 d2_58 rfl ?_
      exact w_nreturn (t := .byte) X0 d2_59 rfl (by simp) (⟨_, rfl, rfl⟩)
    · refine w_iload (pc' := 27) X0 d2_25 rfl rfl ?_
      refine w_if_ne (pc1 := 35) (pc2 := 30) X0 d2_27 (by decide) (fun (hc27 : md ≠ (0 : Int32)) => ?_) (fun (hc27 : md = (0 : Int32)) => ?_)
      · refine w_iload (pc' := 37) X0 d2_35 rfl rfl ?_
        refine w_iconst (pc' := 38) (z := (1 : Int32)) X0 d2_37 rfl rfl ?_
        refine w_icmp_ne (pc1 := 50) (pc2 := 41) X0 d2_38 (by decide) (fun (hc38 : md ≠ (1 : Int32)) => ?_) (fun (hc38 : md = (1 : Int32)) => ?_)
        · refine w_lload (pc' := 52) X0 d2_50 rfl rfl ?_
          refine w_bipush (pc' := 54) (z := (8 : Int32)) X0 d2_52 rfl rfl ?_
          refine w_iloadN (pc' := 55) X0 d2_54 rfl rfl ?_
          refine w_imul (pc' := 56) X0 d2_55 rfl ?_
          refine w_lushr (pc' := 57) X0 d2_56 rfl ?_
          refine w_l2i (pc' := 58) X0 d2_57 rfl ?_
          refine w_i2b (pc' := 59) X0 d2_58 rfl ?_
          exact w_nreturn (t := .byte) X0 d2_59 rfl (by simp) (⟨_, rfl, rfl⟩)
        · refine w_aloadN (pc' := 42) X0 d2_41 rfl rfl rfl ?_
          refine w_iload (pc' := 44) X0 d2_42 rfl rfl ?_
          refine w_baloadB (pc' := 45) (i := kd.toInt.toNat) (v := (.int (wl kd.toInt.toNat))) X0 A1 d2_44 (by omega) (by omega) rfl rfl ?_
          refine w_bipush (pc' := 47) (z := (32 : Int32)) X0 d2_45 rfl rfl ?_
          refine w_isub (pc' := 48) X0 d2_47 rfl ?_
          refine w_i2b (pc' := 49) X0 d2_48 rfl ?_
          exact w_nreturn (t := .byte) X0 d2_49 rfl (by simp) (⟨_, rfl, rfl⟩)
      · refine w_aloadN (pc' := 31) X0 d2_30 rfl rfl rfl ?_
        refine w_iload (pc' := 33) X0 d2_31 rfl rfl ?_
        refine w_baloadB (pc' := 34) (i := kd.toInt.toNat) (v := (.int (wl kd.toInt.toNat))) X0 A1 d2_33 (by omega) (by omega) rfl rfl ?_
        exact w_nreturn (t := .byte) X0 d2_34 rfl (by simp) (⟨_, rfl, rfl⟩)
theorem d4_0 : decode prog_207_method_10_code 0 = .ok (.iload_n 3, 1) := by decide +kernel
theorem d4_1 : decode prog_207_method_10_code 1 = .ok (.iload_n 2, 1) := by decide +kernel
theorem d4_2 : decode prog_207_method_10_code 2 = .ok (.isub, 1) := by decide +kernel
theorem d4_3 : decode prog_207_method_10_code 3 = .ok (.aload_n 0, 1) := by decide +kernel
theorem d4_4 : decode prog_207_method_10_code 4 = .ok (.arraylength, 1) := by decide +kernel
theorem d4_5 : decode prog_207_method_10_code 5 = .ok (.if_icmp .eq 5, 3) := by decide +kernel
theorem d4_8 : decode prog_207_method_10_code 8 = .ok (.iconst 0, 1) := by decide +kernel
theorem d4_9 : decode prog_207_method_10_code 9 = .ok (.ireturn, 1) := by decide +kernel
theorem pn_4 : plainName "com/example/partitioner/partitioner/schema/ValueText" = true := by first | (simp [plainName, overriddenIn]; done) | decide +kernel
theorem rmx_ef (m : MethodId) (aw : Addr) (at1 : Addr) (f1 : Int32) (t1 : Int32) : entryFrame m #[(.ref aw), (.ref at1), (.int f1), (.int t1)] 7 = mkF m 0 #[.val (.ref aw), .val (.ref at1), .val (.int f1), .val (.int t1), .unset, .unset, .unset] [] := by first | (simp [entryFrame, mkF, argsToLocals, Value.category]; done) | rfl
abbrev rmx_Q (Z : State) (aw : Addr) (at1 : Addr) (f1 : Int32) (t1 : Int32) (wl : Nat → Int32) (h0 : Heap) (n0 : Nat) : Option Value → Heap → Prop := fun v h => v = some (.int 0) ∧ h0 = h
set_option maxRecDepth 65536 in
set_option maxHeartbeats 40000000 in
theorem rmx (l : Launch) (Z : State) (a0 : Array Value) (hw : ∀ d ∈ tables_1, d.before a0 Z = true) (ws : List Jvm.Cond) (aw : Addr) (at1 : Addr) (f1 : Int32) (t1 : Int32) (wl : Nat → Int32) (h : Heap) (n0 : Nat) (hn0 : n0 ≤ h.size) (A1 : AF Z h aw .byte 3 (fun j => .int (wl j))) (hne : t1 - f1 ≠ 3) :
    Ct l Z (⟨"com/example/partitioner/partitioner/schema/ValueText", "isWord", "([B[BII)Z"⟩ : MethodName) prog_207_method_10_code 7 (some .boolean) ws ({ frames := 0, cells := 0, slots := 0, locals := 0 } : Room) #[(.ref aw), (.ref at1), (.int f1), (.int t1)] h n0 (rmx_Q Z aw at1 f1 t1 wl h n0) := by
  refine Ct.of (plainFor_of_name pn_4) hn0 (fun m => rmx_ef m aw at1 f1 t1) ?_
  intro p e s m below meth c T0 X0
  replace X0 : Sn Z n0 prog_207_method_10_code 7 "com/example/partitioner/partitioner/schema/ValueText" "isWord" (some .boolean) p l e ({ frames := 0, cells := 0, slots := 0, locals := 0 } : Room) s m #[(.ref aw), (.ref at1), (.int f1), (.int t1)] below meth c T0 h 0 0 := X0
  refine w_iloadN (pc' := 1) X0 d4_0 rfl rfl ?_
  refine w_iloadN (pc' := 2) X0 d4_1 rfl rfl ?_
  refine w_isub (pc' := 3) X0 d4_2 rfl ?_
  refine w_aloadN (pc' := 4) X0 d4_3 rfl rfl rfl ?_
  refine w_arraylength (pc' := 5) (z := (3 : Int32)) X0 A1 d4_4 rfl rfl ?_
  refine w_icmp_eq (pc1 := 10) (pc2 := 8) X0 d4_5 (by decide) (fun (hc5 : (t1 - f1) = (3 : Int32)) => absurd hc5 hne) (fun (hc5 : (t1 - f1) ≠ (3 : Int32)) => ?_)
  refine w_iconst (pc' := 9) (z := (0 : Int32)) X0 d4_8 rfl rfl ?_
  exact w_nreturn (t := .boolean) X0 d4_9 rfl (by simp) (⟨rfl, rfl⟩)
theorem d4_10 : decode prog_207_method_10_code 10 = .ok (.iconst 0, 1) := by decide +kernel
theorem d4_11 : decode prog_207_method_10_code 11 = .ok (.istore 4, 2) := by decide +kernel
theorem d4_13 : decode prog_207_method_10_code 13 = .ok (.iload 4, 2) := by decide +kernel
theorem d4_15 : decode prog_207_method_10_code 15 = .ok (.aload_n 0, 1) := by decide +kernel
theorem d4_16 : decode prog_207_method_10_code 16 = .ok (.arraylength, 1) := by decide +kernel
theorem d4_17 : decode prog_207_method_10_code 17 = .ok (.if_icmp .ge 62, 3) := by decide +kernel
theorem d4_20 : decode prog_207_method_10_code 20 = .ok (.aload_n 1, 1) := by decide +kernel
theorem d4_21 : decode prog_207_method_10_code 21 = .ok (.iload_n 2, 1) := by decide +kernel
theorem d4_22 : decode prog_207_method_10_code 22 = .ok (.iload 4, 2) := by decide +kernel
theorem d4_24 : decode prog_207_method_10_code 24 = .ok (.iadd, 1) := by decide +kernel
theorem d4_25 : decode prog_207_method_10_code 25 = .ok (.baload, 1) := by decide +kernel
theorem d4_26 : decode prog_207_method_10_code 26 = .ok (.istore 5, 2) := by decide +kernel
theorem d4_28 : decode prog_207_method_10_code 28 = .ok (.iload 5, 2) := by decide +kernel
theorem d4_30 : decode prog_207_method_10_code 30 = .ok (.bipush 65, 2) := by decide +kernel
theorem d4_32 : decode prog_207_method_10_code 32 = .ok (.if_icmp .lt 14, 3) := by decide +kernel
theorem d4_35 : decode prog_207_method_10_code 35 = .ok (.iload 5, 2) := by decide +kernel
theorem d4_37 : decode prog_207_method_10_code 37 = .ok (.bipush 90, 2) := by decide +kernel
theorem d4_39 : decode prog_207_method_10_code 39 = .ok (.if_icmp .gt 7, 3) := by decide +kernel
theorem d4_42 : decode prog_207_method_10_code 42 = .ok (.iconst 1, 1) := by decide +kernel
theorem d4_43 : decode prog_207_method_10_code 43 = .ok (.goto 4, 3) := by decide +kernel
theorem d4_46 : decode prog_207_method_10_code 46 = .ok (.iconst 0, 1) := by decide +kernel
theorem d4_47 : decode prog_207_method_10_code 47 = .ok (.istore 6, 2) := by decide +kernel
theorem d4_49 : decode prog_207_method_10_code 49 = .ok (.iload 6, 2) := by decide +kernel
theorem d4_51 : decode prog_207_method_10_code 51 = .ok (.ifCond .eq 11, 3) := by decide +kernel
theorem d4_54 : decode prog_207_method_10_code 54 = .ok (.iload 5, 2) := by decide +kernel
theorem d4_56 : decode prog_207_method_10_code 56 = .ok (.bipush 32, 2) := by decide +kernel
theorem d4_58 : decode prog_207_method_10_code 58 = .ok (.ior, 1) := by decide +kernel
theorem d4_59 : decode prog_207_method_10_code 59 = .ok (.goto 5, 3) := by decide +kernel
theorem d4_62 : decode prog_207_method_10_code 62 = .ok (.iload 5, 2) := by decide +kernel
theorem d4_64 : decode prog_207_method_10_code 64 = .ok (.aload_n 0, 1) := by decide +kernel
theorem d4_65 : decode prog_207_method_10_code 65 = .ok (.iload 4, 2) := by decide +kernel
theorem d4_67 : decode prog_207_method_10_code 67 = .ok (.baload, 1) := by decide +kernel
theorem d4_68 : decode prog_207_method_10_code 68 = .ok (.if_icmp .eq 5, 3) := by decide +kernel
theorem d4_71 : decode prog_207_method_10_code 71 = .ok (.iconst 0, 1) := by decide +kernel
theorem d4_72 : decode prog_207_method_10_code 72 = .ok (.ireturn, 1) := by decide +kernel
theorem d4_73 : decode prog_207_method_10_code 73 = .ok (.iinc 4 1, 3) := by decide +kernel
theorem d4_76 : decode prog_207_method_10_code 76 = .ok (.goto (-63), 3) := by decide +kernel
theorem d4_79 : decode prog_207_method_10_code 79 = .ok (.iconst 1, 1) := by decide +kernel
theorem d4_80 : decode prog_207_method_10_code 80 = .ok (.ireturn, 1) := by decide +kernel
theorem rmw_ef (m : MethodId) (aw : Addr) (at1 : Addr) (f1 : Int32) (t1 : Int32) : entryFrame m #[(.ref aw), (.ref at1), (.int f1), (.int t1)] 7 = mkF m 0 #[.val (.ref aw), .val (.ref at1), .val (.int f1), .val (.int t1), .unset, .unset, .unset] [] := by first | (simp [entryFrame, mkF, argsToLocals, Value.category]; done) | rfl
abbrev rmw_Q (Z : State) (aw : Addr) (at1 : Addr) (f1 : Int32) (t1 : Int32) (wl tx : Nat → Int32) (fr : Nat) (h0 : Heap) (n0 : Nat) : Option Value → Heap → Prop := fun v h => v = some (.int (own_w tx wl fr)) ∧ h0 = h
set_option maxRecDepth 65536 in
set_option maxHeartbeats 40000000 in
theorem rmw (l : Launch) (Z : State) (a0 : Array Value) (hw : ∀ d ∈ tables_1, d.before a0 Z = true) (ws : List Jvm.Cond) (aw : Addr) (at1 : Addr) (f1 : Int32) (t1 : Int32) (wl tx : Nat → Int32) (fr : Nat) (h : Heap) (n0 : Nat) (hn0 : n0 ≤ h.size) (A1 : AF Z h aw .byte 3 (fun j => .int (wl j))) (A2 : AF Z h at1 .byte 5 (fun j => .int (tx j))) (heq : t1 - f1 = 3) (hf : f1.toInt = fr) (hfr : fr + 3 ≤ 5) :
    Ct l Z (⟨"com/example/partitioner/partitioner/schema/ValueText", "isWord", "([B[BII)Z"⟩ : MethodName) prog_207_method_10_code 7 (some .boolean) ws ({ frames := 0, cells := 0, slots := 0, locals := 0 } : Room) #[(.ref aw), (.ref at1), (.int f1), (.int t1)] h n0 (rmw_Q Z aw at1 f1 t1 wl tx fr h n0) := by
  refine Ct.of (plainFor_of_name pn_4) hn0 (fun m => rmw_ef m aw at1 f1 t1) ?_
  intro p e s m below meth c T0 X0
  replace X0 : Sn Z n0 prog_207_method_10_code 7 "com/example/partitioner/partitioner/schema/ValueText" "isWord" (some .boolean) p l e ({ frames := 0, cells := 0, slots := 0, locals := 0 } : Room) s m #[(.ref aw), (.ref at1), (.int f1), (.int t1)] below meth c T0 h 0 0 := X0
  refine w_iloadN (pc' := 1) X0 d4_0 rfl rfl ?_
  refine w_iloadN (pc' := 2) X0 d4_1 rfl rfl ?_
  refine w_isub (pc' := 3) X0 d4_2 rfl ?_
  refine w_aloadN (pc' := 4) X0 d4_3 rfl rfl rfl ?_
  refine w_arraylength (pc' := 5) (z := (3 : Int32)) X0 A1 d4_4 rfl rfl ?_
  refine w_icmp_eq (pc1 := 10) (pc2 := 8) X0 d4_5 (by decide) (fun (hc5 : (t1 - f1) = (3 : Int32)) => ?_) (fun (hc5 : (t1 - f1) ≠ (3 : Int32)) => absurd heq hc5)
  refine w_iconst (pc' := 11) (z := (0 : Int32)) X0 d4_10 rfl rfl ?_
  refine w_istore (pc' := 13) (L' := #[.val (.ref aw), .val (.ref at1), .val (.int f1), .val (.int t1), .val (.int (0 : Int32)), .unset, .unset]) X0 d4_11 rfl rfl ?_
  refine w_iload (pc' := 15) X0 d4_13 rfl rfl ?_
  refine w_aloadN (pc' := 16) X0 d4_15 rfl rfl rfl ?_
  refine w_arraylength (pc' := 17) (z := (3 : Int32)) X0 A1 d4_16 rfl rfl ?_
  refine w_icmp_ge (pc1 := 79) (pc2 := 20) X0 d4_17 (by decide) (fun (hc17 : (0 : Int) ≥ (3 : Int)) => absurd hc17 (by decide)) (fun (hc17 : (0 : Int) < (3 : Int)) => ?_)
  refine w_aloadN (pc' := 21) X0 d4_20 rfl rfl rfl ?_
  refine w_iloadN (pc' := 22) X0 d4_21 rfl rfl ?_
  refine w_iload (pc' := 24) X0 d4_22 rfl rfl ?_
  refine w_iadd (pc' := 25) X0 d4_24 rfl ?_
  refine w_baloadB (pc' := 26) (i := fr) (v := (.int (tx fr))) X0 A2 d4_25 (own_add hf (by omega) (0 : Int32) rfl (by decide)) (by omega) rfl rfl ?_
  refine w_istore (pc' := 28) (L' := #[.val (.ref aw), .val (.ref at1), .val (.int f1), .val (.int t1), .val (.int (0 : Int32)), .val (.int (tx fr)), .unset]) X0 d4_26 rfl rfl ?_
  have J0 : ∀ (zc u6 : Int32), own_low (tx fr) = zc → W p e below s ({ frames := 0, cells := 0, slots := 0, locals := 0 } : Room) n0 (rmw_Q Z aw at1 f1 t1 wl tx fr h n0) (T0.setTop (mkF m 64 #[.val (.ref aw), .val (.ref at1), .val (.int f1), .val (.int t1), .val (.int (0 : Int32)), .val (.int (tx fr)), .val (.int u6)] [(.int zc)])) := by
    intro zc u6 ec0
    refine w_aloadN (pc' := 65) X0 d4_64 rfl rfl rfl ?_
    refine w_iload (pc' := 67) X0 d4_65 rfl rfl ?_
    refine w_baloadB (pc' := 68) (i := 0) (v := (.int (wl 0))) X0 A1 d4_67 rfl (by decide) rfl rfl ?_
    refine w_icmp_eq (pc1 := 73) (pc2 := 71) X0 d4_68 (by decide) (fun (hc68 : zc = (wl 0)) => ?_) (fun (hc68 : zc ≠ (wl 0)) => ?_)
    · have hd0 := hc68
      refine w_iinc (pc' := 76) (z := (1 : Int32)) (L' := #[.val (.ref aw), .val (.ref at1), .val (.int f1), .val (.int t1), .val (.int (1 : Int32)), .val (.int (tx fr)), .val (.int u6)]) X0 d4_73 rfl rfl rfl rfl ?_
      refine w_goto (pc' := 13) X0 d4_76 (by decide) ?_
      refine w_iload (pc' := 15) X0 d4_13 rfl rfl ?_
      refine w_aloadN (pc' := 16) X0 d4_15 rfl rfl rfl ?_
      refine w_arraylength (pc' := 17) (z := (3 : Int32)) X0 A1 d4_16 rfl rfl ?_
      refine w_icmp_ge (pc1 := 79) (pc2 := 20) X0 d4_17 (by decide) (fun (hc17 : (1 : Int) ≥ (3 : Int)) => absurd hc17 (by decide)) (fun (hc17 : (1 : Int) < (3 : Int)) => ?_)
      refine w_aloadN (pc' := 21) X0 d4_20 rfl rfl rfl ?_
      refine w_iloadN (pc' := 22) X0 d4_21 rfl rfl ?_
      refine w_iload (pc' := 24) X0 d4_22 rfl rfl ?_
      refine w_iadd (pc' := 25) X0 d4_24 rfl ?_
      refine w_baloadB (pc' := 26) (i := (fr + 1)) (v := (.int (tx (fr + 1)))) X0 A2 d4_25 (own_add hf (by omega) (1 : Int32) rfl (by decide)) (by omega) rfl rfl ?_
      refine w_istore (pc' := 28) (L' := #[.val (.ref aw), .val (.ref at1), .val (.int f1), .val (.int t1), .val (.int (1 : Int32)), .val (.int (tx (fr + 1))), .val (.int u6)]) X0 d4_26 rfl rfl ?_
      have J1 : ∀ (zc u6 : Int32), own_low (tx (fr + 1)) = zc → W p e below s ({ frames := 0, cells := 0, slots := 0, locals := 0 } : Room) n0 (rmw_Q Z aw at1 f1 t1 wl tx fr h n0) (T0.setTop (mkF m 64 #[.val (.ref aw), .val (.ref at1), .val (.int f1), .val (.int t1), .val (.int (1 : Int32)), .val (.int (tx (fr + 1))), .val (.int u6)] [(.int zc)])) := by
        intro zc u6 ec1
        refine w_aloadN (pc' := 65) X0 d4_64 rfl rfl rfl ?_
        refine w_iload (pc' := 67) X0 d4_65 rfl rfl ?_
        refine w_baloadB (pc' := 68) (i := 1) (v := (.int (wl 1))) X0 A1 d4_67 rfl (by decide) rfl rfl ?_
        refine w_icmp_eq (pc1 := 73) (pc2 := 71) X0 d4_68 (by decide) (fun (hc68 : zc = (wl 1)) => ?_) (fun (hc68 : zc ≠ (wl 1)) => ?_)
        · have hd1 := hc68
          refine w_iinc (pc' := 76) (z := (2 : Int32)) (L' := #[.val (.ref aw), .val (.ref at1), .val (.int f1), .val (.int t1), .val (.int (2 : Int32)), .val (.int (tx (fr + 1))), .val (.int u6)]) X0 d4_73 rfl rfl rfl rfl ?_
          refine w_goto (pc' := 13) X0 d4_76 (by decide) ?_
          refine w_iload (pc' := 15) X0 d4_13 rfl rfl ?_
          refine w_aloadN (pc' := 16) X0 d4_15 rfl rfl rfl ?_
          refine w_arraylength (pc' := 17) (z := (3 : Int32)) X0 A1 d4_16 rfl rfl ?_
          refine w_icmp_ge (pc1 := 79) (pc2 := 20) X0 d4_17 (by decide) (fun (hc17 : (2 : Int) ≥ (3 : Int)) => absurd hc17 (by decide)) (fun (hc17 : (2 : Int) < (3 : Int)) => ?_)
          refine w_aloadN (pc' := 21) X0 d4_20 rfl rfl rfl ?_
          refine w_iloadN (pc' := 22) X0 d4_21 rfl rfl ?_
          refine w_iload (pc' := 24) X0 d4_22 rfl rfl ?_
          refine w_iadd (pc' := 25) X0 d4_24 rfl ?_
          refine w_baloadB (pc' := 26) (i := (fr + 2)) (v := (.int (tx (fr + 2)))) X0 A2 d4_25 (own_add hf (by omega) (2 : Int32) rfl (by decide)) (by omega) rfl rfl ?_
          refine w_istore (pc' := 28) (L' := #[.val (.ref aw), .val (.ref at1), .val (.int f1), .val (.int t1), .val (.int (2 : Int32)), .val (.int (tx (fr + 2))), .val (.int u6)]) X0 d4_26 rfl rfl ?_
          have J2 : ∀ (zc u6 : Int32), own_low (tx (fr + 2)) = zc → W p e below s ({ frames := 0, cells := 0, slots := 0, locals := 0 } : Room) n0 (rmw_Q Z aw at1 f1 t1 wl tx fr h n0) (T0.setTop (mkF m 64 #[.val (.ref aw), .val (.ref at1), .val (.int f1), .val (.int t1), .val (.int (2 : Int32)), .val (.int (tx (fr + 2))), .val (.int u6)] [(.int zc)])) := by
            intro zc u6 ec2
            refine w_aloadN (pc' := 65) X0 d4_64 rfl rfl rfl ?_
            refine w_iload (pc' := 67) X0 d4_65 rfl rfl ?_
            refine w_baloadB (pc' := 68) (i := 2) (v := (.int (wl 2))) X0 A1 d4_67 rfl (by decide) rfl rfl ?_
            refine w_icmp_eq (pc1 := 73) (pc2 := 71) X0 d4_68 (by decide) (fun (hc68 : zc = (wl 2)) => ?_) (fun (hc68 : zc ≠ (wl 2)) => ?_)
            · have hd2 := hc68
              refine w_iinc (pc' := 76) (z := (3 : Int32)) (L' := #[.val (.ref aw), .val (.ref at1), .val (.int f1), .val (.int t1), .val (.int (3 : Int32)), .val (.int (tx (fr + 2))), .val (.int u6)]) X0 d4_73 rfl rfl rfl rfl ?_
              refine w_goto (pc' := 13) X0 d4_76 (by decide) ?_
              refine w_iload (pc' := 15) X0 d4_13 rfl rfl ?_
              refine w_aloadN (pc' := 16) X0 d4_15 rfl rfl rfl ?_
              refine w_arraylength (pc' := 17) (z := (3 : Int32)) X0 A1 d4_16 rfl rfl ?_
              refine w_icmp_ge (pc1 := 79) (pc2 := 20) X0 d4_17 (by decide) (fun (hc17 : (3 : Int) ≥ (3 : Int)) => ?_) (fun (hc17 : (3 : Int) < (3 : Int)) => absurd hc17 (by decide))
              refine w_iconst (pc' := 80) (z := (1 : Int32)) X0 d4_79 rfl rfl ?_
              exact w_nreturn (t := .boolean) X0 d4_80 rfl (by simp) (⟨by rw [own_w1 (ec0.trans hd0) (ec1.trans hd1) (ec2.trans hd2)]; rfl, rfl⟩)
            · refine w_iconst (pc' := 72) (z := (0 : Int32)) X0 d4_71 rfl rfl ?_
              exact w_nreturn (t := .boolean) X0 d4_72 rfl (by simp) (⟨by rw [own_w0 (Or.inr (Or.inr (fun q => hc68 (ec2.symm.trans q))))]; rfl, rfl⟩)
          refine w_iload (pc' := 30) X0 d4_28 rfl rfl ?_
          refine w_bipush (pc' := 32) (z := (65 : Int32)) X0 d4_30 rfl rfl ?_
          refine w_icmp_lt (pc1 := 46) (pc2 := 35) X0 d4_32 (by decide) (fun (hc32 : (tx (fr + 2)).toInt < (65 : Int)) => ?_) (fun (hc32 : (tx (fr + 2)).toInt ≥ (65 : Int)) => ?_)
          · refine w_iconst (pc' := 47) (z := (0 : Int32)) X0 d4_46 rfl rfl ?_
            refine w_istore (pc' := 49) (L' := #[.val (.ref aw), .val (.ref at1), .val (.int f1), .val (.int t1), .val (.int (2 : Int32)), .val (.int (tx (fr + 2))), .val (.int (0 : Int32))]) X0 d4_47 rfl rfl ?_
            refine w_iload (pc' := 51) X0 d4_49 rfl rfl ?_
            refine w_if_eq (pc1 := 62) (pc2 := 54) X0 d4_51 (by decide) (fun (hc51 : (0 : Int32) = (0 : Int32)) => ?_) (fun (hc51 : (0 : Int32) ≠ (0 : Int32)) => absurd hc51 (by decide))
            refine w_iload (pc' := 64) X0 d4_62 rfl rfl ?_
            exact J2 _ _ (by first | exact own_lo1 hc32 hc39 | exact own_lo2 hc32 | exact own_lo3 hc39)
          · refine w_iload (pc' := 37) X0 d4_35 rfl rfl ?_
            refine w_bipush (pc' := 39) (z := (90 : Int32)) X0 d4_37 rfl rfl ?_
            refine w_icmp_gt (pc1 := 46) (pc2 := 42) X0 d4_39 (by decide) (fun (hc39 : (tx (fr + 2)).toInt > (90 : Int)) => ?_) (fun (hc39 : (tx (fr + 2)).toInt ≤ (90 : Int)) => ?_)
            · refine w_iconst (pc' := 47) (z := (0 : Int32)) X0 d4_46 rfl rfl ?_
              refine w_istore (pc' := 49) (L' := #[.val (.ref aw), .val (.ref at1), .val (.int f1), .val (.int t1), .val (.int (2 : Int32)), .val (.int (tx (fr + 2))), .val (.int (0 : Int32))]) X0 d4_47 rfl rfl ?_
              refine w_iload (pc' := 51) X0 d4_49 rfl rfl ?_
              refine w_if_eq (pc1 := 62) (pc2 := 54) X0 d4_51 (by decide) (fun (hc51 : (0 : Int32) = (0 : Int32)) => ?_) (fun (hc51 : (0 : Int32) ≠ (0 : Int32)) => absurd hc51 (by decide))
              refine w_iload (pc' := 64) X0 d4_62 rfl rfl ?_
              exact J2 _ _ (by first | exact own_lo1 hc32 hc39 | exact own_lo2 hc32 | exact own_lo3 hc39)
            · refine w_iconst (pc' := 43) (z := (1 : Int32)) X0 d4_42 rfl rfl ?_
              refine w_goto (pc' := 47) X0 d4_43 (by decide) ?_
              refine w_istore (pc' := 49) (L' := #[.val (.ref aw), .val (.ref at1), .val (.int f1), .val (.int t1), .val (.int (2 : Int32)), .val (.int (tx (fr + 2))), .val (.int (1 : Int32))]) X0 d4_47 rfl rfl ?_
              refine w_iload (pc' := 51) X0 d4_49 rfl rfl ?_
              refine w_if_eq (pc1 := 62) (pc2 := 54) X0 d4_51 (by decide) (fun (hc51 : (1 : Int32) = (0 : Int32)) => absurd hc51 (by decide)) (fun (hc51 : (1 : Int32) ≠ (0 : Int32)) => ?_)
              refine w_iload (pc' := 56) X0 d4_54 rfl rfl ?_
              refine w_bipush (pc' := 58) (z := (32 : Int32)) X0 d4_56 rfl rfl ?_
              refine w_ior (pc' := 59) X0 d4_58 rfl ?_
              refine w_goto (pc' := 64) X0 d4_59 (by decide) ?_
              exact J2 _ _ (by first | exact own_lo1 hc32 hc39 | exact own_lo2 hc32 | exact own_lo3 hc39)
        · refine w_iconst (pc' := 72) (z := (0 : Int32)) X0 d4_71 rfl rfl ?_
          exact w_nreturn (t := .boolean) X0 d4_72 rfl (by simp) (⟨by rw [own_w0 (Or.inr (Or.inl (fun q => hc68 (ec1.symm.trans q))))]; rfl, rfl⟩)
      refine w_iload (pc' := 30) X0 d4_28 rfl rfl ?_
      refine w_bipush (pc' := 32) (z := (65 : Int32)) X0 d4_30 rfl rfl ?_
      refine w_icmp_lt (pc1 := 46) (pc2 := 35) X0 d4_32 (by decide) (fun (hc32 : (tx (fr + 1)).toInt < (65 : Int)) => ?_) (fun (hc32 : (tx (fr + 1)).toInt ≥ (65 : Int)) => ?_)
      · refine w_iconst (pc' := 47) (z := (0 : Int32)) X0 d4_46 rfl rfl ?_
        refine w_istore (pc' := 49) (L' := #[.val (.ref aw), .val (.ref at1), .val (.int f1), .val (.int t1), .val (.int (1 : Int32)), .val (.int (tx (fr + 1))), .val (.int (0 : Int32))]) X0 d4_47 rfl rfl ?_
        refine w_iload (pc' := 51) X0 d4_49 rfl rfl ?_
        refine w_if_eq (pc1 := 62) (pc2 := 54) X0 d4_51 (by decide) (fun (hc51 : (0 : Int32) = (0 : Int32)) => ?_) (fun (hc51 : (0 : Int32) ≠ (0 : Int32)) => absurd hc51 (by decide))
        refine w_iload (pc' := 64) X0 d4_62 rfl rfl ?_
        exact J1 _ _ (by first | exact own_lo1 hc32 hc39 | exact own_lo2 hc32 | exact own_lo3 hc39)
      · refine w_iload (pc' := 37) X0 d4_35 rfl rfl ?_
        refine w_bipush (pc' := 39) (z := (90 : Int32)) X0 d4_37 rfl rfl ?_
        refine w_icmp_gt (pc1 := 46) (pc2 := 42) X0 d4_39 (by decide) (fun (hc39 : (tx (fr + 1)).toInt > (90 : Int)) => ?_) (fun (hc39 : (tx (fr + 1)).toInt ≤ (90 : Int)) => ?_)
        · refine w_iconst (pc' := 47) (z := (0 : Int32)) X0 d4_46 rfl rfl ?_
          refine w_istore (pc' := 49) (L' := #[.val (.ref aw), .val (.ref at1), .val (.int f1), .val (.int t1), .val (.int (1 : Int32)), .val (.int (tx (fr + 1))), .val (.int (0 : Int32))]) X0 d4_47 rfl rfl ?_
          refine w_iload (pc' := 51) X0 d4_49 rfl rfl ?_
          refine w_if_eq (pc1 := 62) (pc2 := 54) X0 d4_51 (by decide) (fun (hc51 : (0 : Int32) = (0 : Int32)) => ?_) (fun (hc51 : (0 : Int32) ≠ (0 : Int32)) => absurd hc51 (by decide))
          refine w_iload (pc' := 64) X0 d4_62 rfl rfl ?_
          exact J1 _ _ (by first | exact own_lo1 hc32 hc39 | exact own_lo2 hc32 | exact own_lo3 hc39)
        · refine w_iconst (pc' := 43) (z := (1 : Int32)) X0 d4_42 rfl rfl ?_
          refine w_goto (pc' := 47) X0 d4_43 (by decide) ?_
          refine w_istore (pc' := 49) (L' := #[.val (.ref aw), .val (.ref at1), .val (.int f1), .val (.int t1), .val (.int (1 : Int32)), .val (.int (tx (fr + 1))), .val (.int (1 : Int32))]) X0 d4_47 rfl rfl ?_
          refine w_iload (pc' := 51) X0 d4_49 rfl rfl ?_
          refine w_if_eq (pc1 := 62) (pc2 := 54) X0 d4_51 (by decide) (fun (hc51 : (1 : Int32) = (0 : Int32)) => absurd hc51 (by decide)) (fun (hc51 : (1 : Int32) ≠ (0 : Int32)) => ?_)
          refine w_iload (pc' := 56) X0 d4_54 rfl rfl ?_
          refine w_bipush (pc' := 58) (z := (32 : Int32)) X0 d4_56 rfl rfl ?_
          refine w_ior (pc' := 59) X0 d4_58 rfl ?_
          refine w_goto (pc' := 64) X0 d4_59 (by decide) ?_
          exact J1 _ _ (by first | exact own_lo1 hc32 hc39 | exact own_lo2 hc32 | exact own_lo3 hc39)
    · refine w_iconst (pc' := 72) (z := (0 : Int32)) X0 d4_71 rfl rfl ?_
      exact w_nreturn (t := .boolean) X0 d4_72 rfl (by simp) (⟨by rw [own_w0 (Or.inl (fun q => hc68 (ec0.symm.trans q)))]; rfl, rfl⟩)
  refine w_iload (pc' := 30) X0 d4_28 rfl rfl ?_
  refine w_bipush (pc' := 32) (z := (65 : Int32)) X0 d4_30 rfl rfl ?_
  refine w_icmp_lt (pc1 := 46) (pc2 := 35) X0 d4_32 (by decide) (fun (hc32 : (tx fr).toInt < (65 : Int)) => ?_) (fun (hc32 : (tx fr).toInt ≥ (65 : Int)) => ?_)
  · refine w_iconst (pc' := 47) (z := (0 : Int32)) X0 d4_46 rfl rfl ?_
    refine w_istore (pc' := 49) (L' := #[.val (.ref aw), .val (.ref at1), .val (.int f1), .val (.int t1), .val (.int (0 : Int32)), .val (.int (tx fr)), .val (.int (0 : Int32))]) X0 d4_47 rfl rfl ?_
    refine w_iload (pc' := 51) X0 d4_49 rfl rfl ?_
    refine w_if_eq (pc1 := 62) (pc2 := 54) X0 d4_51 (by decide) (fun (hc51 : (0 : Int32) = (0 : Int32)) => ?_) (fun (hc51 : (0 : Int32) ≠ (0 : Int32)) => absurd hc51 (by decide))
    refine w_iload (pc' := 64) X0 d4_62 rfl rfl ?_
    exact J0 _ _ (by first | exact own_lo1 hc32 hc39 | exact own_lo2 hc32 | exact own_lo3 hc39)
  · refine w_iload (pc' := 37) X0 d4_35 rfl rfl ?_
    refine w_bipush (pc' := 39) (z := (90 : Int32)) X0 d4_37 rfl rfl ?_
    refine w_icmp_gt (pc1 := 46) (pc2 := 42) X0 d4_39 (by decide) (fun (hc39 : (tx fr).toInt > (90 : Int)) => ?_) (fun (hc39 : (tx fr).toInt ≤ (90 : Int)) => ?_)
    · refine w_iconst (pc' := 47) (z := (0 : Int32)) X0 d4_46 rfl rfl ?_
      refine w_istore (pc' := 49) (L' := #[.val (.ref aw), .val (.ref at1), .val (.int f1), .val (.int t1), .val (.int (0 : Int32)), .val (.int (tx fr)), .val (.int (0 : Int32))]) X0 d4_47 rfl rfl ?_
      refine w_iload (pc' := 51) X0 d4_49 rfl rfl ?_
      refine w_if_eq (pc1 := 62) (pc2 := 54) X0 d4_51 (by decide) (fun (hc51 : (0 : Int32) = (0 : Int32)) => ?_) (fun (hc51 : (0 : Int32) ≠ (0 : Int32)) => absurd hc51 (by decide))
      refine w_iload (pc' := 64) X0 d4_62 rfl rfl ?_
      exact J0 _ _ (by first | exact own_lo1 hc32 hc39 | exact own_lo2 hc32 | exact own_lo3 hc39)
    · refine w_iconst (pc' := 43) (z := (1 : Int32)) X0 d4_42 rfl rfl ?_
      refine w_goto (pc' := 47) X0 d4_43 (by decide) ?_
      refine w_istore (pc' := 49) (L' := #[.val (.ref aw), .val (.ref at1), .val (.int f1), .val (.int t1), .val (.int (0 : Int32)), .val (.int (tx fr)), .val (.int (1 : Int32))]) X0 d4_47 rfl rfl ?_
      refine w_iload (pc' := 51) X0 d4_49 rfl rfl ?_
      refine w_if_eq (pc1 := 62) (pc2 := 54) X0 d4_51 (by decide) (fun (hc51 : (1 : Int32) = (0 : Int32)) => absurd hc51 (by decide)) (fun (hc51 : (1 : Int32) ≠ (0 : Int32)) => ?_)
      refine w_iload (pc' := 56) X0 d4_54 rfl rfl ?_
      refine w_bipush (pc' := 58) (z := (32 : Int32)) X0 d4_56 rfl rfl ?_
      refine w_ior (pc' := 59) X0 d4_58 rfl ?_
      refine w_goto (pc' := 64) X0 d4_59 (by decide) ?_
      exact J0 _ _ (by first | exact own_lo1 hc32 hc39 | exact own_lo2 hc32 | exact own_lo3 hc39)
theorem pd_111 : parseMethodDescriptor "(II)I" = some ⟨[.int, .int], some .int⟩ := by decide +kernel
theorem pd_112 : parseMethodDescriptor "(II[BIJ)B" = some ⟨[.int, .int, (.array .byte), .int, .long], some .byte⟩ := by decide +kernel
theorem pd_113 : parseMethodDescriptor "([B[BII)Z" = some ⟨[(.array .byte), (.array .byte), .int, .int], some .boolean⟩ := by decide +kernel
theorem pd_114 : parseMethodDescriptor "(BB)Z" = some ⟨[.byte, .byte], some .boolean⟩ := by decide +kernel
theorem rm0_ef (m : MethodId) (lt : Int32) (md : Int32) (raw : Int64) (f0 : Int32) (ln : Int32) : entryFrame m #[(.int lt), (.int md), (.long raw), (.int f0), (.int ln)] 13 = mkF m 0 #[.val (.int lt), .val (.int md), .val (.long raw), .second, .val (.int f0), .val (.int ln), .unset, .unset, .unset, .unset, .unset, .unset, .unset] [] := by first | (simp [entryFrame, mkF, argsToLocals, Value.category]; done) | rfl
abbrev rm0_Q (Z : State) (lt : Int32) (md : Int32) (raw : Int64) (f0 : Int32) (ln : Int32) (h0 : Heap) (n0 : Nat) : Option Value → Heap → Prop := fun v h => v = some (.int 1)
set_option maxRecDepth 65536 in
set_option maxHeartbeats 40000000 in
theorem rm0 (l : Launch) (Z : State) (a0 : Array Value) (hw : ∀ d ∈ tables_1, d.before a0 Z = true) (ws : List Jvm.Cond) (lt : Int32) (md : Int32) (raw : Int64) (f0 : Int32) (ln : Int32) (h : Heap) (n0 : Nat) (hn0 : n0 ≤ h.size) :
    Ct l Z x code maxLocals ret ws room_1 #[(.int lt), (.int md), (.long raw), (.int f0), (.int ln)] h n0 (rm0_Q Z lt md raw f0 ln h n0) := by
  refine Ct.of (plainFor_of_name pn_3) hn0 (fun m => rm0_ef m lt md raw f0 ln) ?_
  intro p e s m below meth c T0 X0
  replace X0 : Sn Z n0 code 13 "com/example/partitioner/partitioner/schema/ValueTextIsWordPinLaw" "law" (some .boolean) p l e room_1 s m #[(.int lt), (.int md), (.long raw), (.int f0), (.int ln)] below meth c T0 h 0 0 := X0
  refine w_iloadN (pc' := 1) X0 at_0 rfl rfl ?_
  refine w_ldc (pc' := 3) (z := (2147483647 : Int32)) X0 at_1 (hw _ (List.mem_of_getElem? (i := 0) rfl)) rfl ?_
  refine w_iand (pc' := 4) X0 at_3 rfl ?_
  refine w_istore (pc' := 6) (L' := #[.val (.int lt), .val (.int md), .val (.long raw), .second, .val (.int f0), .val (.int ln), .val (.int (lt &&& (2147483647 : Int32))), .unset, .unset, .unset, .unset, .unset, .unset]) X0 at_4 rfl rfl ?_
  refine w_iconst (pc' := 7) (z := (3 : Int32)) X0 at_6 rfl rfl ?_
  refine w_newarray (pc' := 9) (n := 3) (cap := 3) X0 at_7 (hw _ (List.mem_of_getElem? (i := 1) rfl)) rfl (by decide) (by decide) (fun T1 h1 b1 X1 E1 q1 g1 F1 => ?_)
  refine w_astore (pc' := 11) (L' := #[.val (.int lt), .val (.int md), .val (.long raw), .second, .val (.int f0), .val (.int ln), .val (.int (lt &&& (2147483647 : Int32))), .val (.ref b1), .unset, .unset, .unset, .unset, .unset]) X1 at_9 rfl rfl rfl ?_
  refine w_aload (pc' := 13) X1 at_11 rfl rfl rfl ?_
  refine w_iconst (pc' := 14) (z := (0 : Int32)) X1 at_13 rfl rfl ?_
  refine w_bipush (pc' := 16) (z := (97 : Int32)) X1 at_14 rfl rfl ?_
  refine w_iload (pc' := 18) X1 at_16 rfl rfl ?_
  refine w_bipush (pc' := 20) (z := (26 : Int32)) X1 at_18 rfl rfl ?_
  refine w_irem (pc' := 21) X1 at_20 (by decide) rfl ?_
  refine w_iadd (pc' := 22) X1 at_21 rfl ?_
  refine w_i2b (pc' := 23) X1 at_22 rfl ?_
  refine w_bastoreB (pc' := 24) (i := 0) X1 F1 at_23 rfl (by decide) rfl g1 (fun T2 h2 X2 W2 => ?_)
  have F2 := F1.set W2
  refine w_aload (pc' := 26) X2 at_24 rfl rfl rfl ?_
  refine w_iconst (pc' := 27) (z := (1 : Int32)) X2 at_26 rfl rfl ?_
  refine w_bipush (pc' := 29) (z := (97 : Int32)) X2 at_27 rfl rfl ?_
  refine w_iload (pc' := 31) X2 at_29 rfl rfl ?_
  refine w_bipush (pc' := 33) (z := (26 : Int32)) X2 at_31 rfl rfl ?_
  refine w_idiv (pc' := 34) X2 at_33 (by decide) rfl ?_
  refine w_bipush (pc' := 36) (z := (26 : Int32)) X2 at_34 rfl rfl ?_
  refine w_irem (pc' := 37) X2 at_36 (by decide) rfl ?_
  refine w_iadd (pc' := 38) X2 at_37 rfl ?_
  refine w_i2b (pc' := 39) X2 at_38 rfl ?_
  refine w_bastoreB (pc' := 40) (i := 1) X2 F2 at_39 rfl (by decide) rfl g1 (fun T3 h3 X3 W3 => ?_)
  have F3 := F2.set W3
  refine w_aload (pc' := 42) X3 at_40 rfl rfl rfl ?_
  refine w_iconst (pc' := 43) (z := (2 : Int32)) X3 at_42 rfl rfl ?_
  refine w_bipush (pc' := 45) (z := (97 : Int32)) X3 at_43 rfl rfl ?_
  refine w_iload (pc' := 47) X3 at_45 rfl rfl ?_
  refine w_sipush (pc' := 50) (z := (676 : Int32)) X3 at_47 rfl rfl ?_
  refine w_idiv (pc' := 51) X3 at_50 (by decide) rfl ?_
  refine w_bipush (pc' := 53) (z := (26 : Int32)) X3 at_51 rfl rfl ?_
  refine w_irem (pc' := 54) X3 at_53 (by decide) rfl ?_
  refine w_iadd (pc' := 55) X3 at_54 rfl ?_
  refine w_i2b (pc' := 56) X3 at_55 rfl ?_
  refine w_bastoreB (pc' := 57) (i := 2) X3 F3 at_56 rfl (by decide) rfl g1 (fun T4 h4 X4 W4 => ?_)
  have F4 := F3.set W4
  have hl0 : 97 ≤ (((97 : Int32) + ((lt &&& (2147483647 : Int32)) % (26 : Int32))).toInt8.toInt32.toInt8.toInt32).toInt ∧ (((97 : Int32) + ((lt &&& (2147483647 : Int32)) % (26 : Int32))).toInt8.toInt32.toInt8.toInt32).toInt ≤ 122 := own_let (own_m lt)
  have hl1 : 97 ≤ (((97 : Int32) + (((lt &&& (2147483647 : Int32)) / (26 : Int32)) % (26 : Int32))).toInt8.toInt32.toInt8.toInt32).toInt ∧ (((97 : Int32) + (((lt &&& (2147483647 : Int32)) / (26 : Int32)) % (26 : Int32))).toInt8.toInt32.toInt8.toInt32).toInt ≤ 122 := own_let (own_d (own_m lt) (by decide))
  have hl2 : 97 ≤ (((97 : Int32) + (((lt &&& (2147483647 : Int32)) / (676 : Int32)) % (26 : Int32))).toInt8.toInt32.toInt8.toInt32).toInt ∧ (((97 : Int32) + (((lt &&& (2147483647 : Int32)) / (676 : Int32)) % (26 : Int32))).toInt8.toInt32.toInt8.toInt32).toInt ≤ 122 := own_let (own_d (own_m lt) (by decide))
  obtain ⟨l0, el0⟩ : ∃ z : Int32, z = ((97 : Int32) + ((lt &&& (2147483647 : Int32)) % (26 : Int32))).toInt8.toInt32.toInt8.toInt32 := ⟨_, rfl⟩
  rw [← el0] at hl0 F4
  obtain ⟨l1, el1⟩ : ∃ z : Int32, z = ((97 : Int32) + (((lt &&& (2147483647 : Int32)) / (26 : Int32)) % (26 : Int32))).toInt8.toInt32.toInt8.toInt32 := ⟨_, rfl⟩
  rw [← el1] at hl1 F4
  obtain ⟨l2, el2⟩ : ∃ z : Int32, z = ((97 : Int32) + (((lt &&& (2147483647 : Int32)) / (676 : Int32)) % (26 : Int32))).toInt8.toInt32.toInt8.toInt32 := ⟨_, rfl⟩
  rw [← el2] at hl2 F4
  have Fw : AF Z h4 b1 .byte 3 (fun j => .int ((own_l3 l0 l1 l2) j)) := F4.congr (by
    intro j hj
    match j, hj with
    | 0, _ => rfl
    | 1, _ => rfl
    | 2, _ => rfl
    | _ + 3, hj => exact absurd hj (by omega))
  refine w_iload (pc' := 59) X4 at_57 rfl rfl ?_
  refine w_ldc (pc' := 61) (z := (2147483647 : Int32)) X4 at_59 (hw _ (List.mem_of_getElem? (i := 0) rfl)) rfl ?_
  refine w_iand (pc' := 62) X4 at_61 rfl ?_
  refine w_bipush (pc' := 64) (z := (6 : Int32)) X4 at_62 rfl rfl ?_
  refine w_irem (pc' := 65) X4 at_64 (by decide) rfl ?_
  have hfr := own_from f0
  obtain ⟨fv, efv⟩ : ∃ z : Int32, z = ((f0 &&& (2147483647 : Int32)) % (6 : Int32)) := ⟨_, rfl⟩
  refine w_topI efv.symm ?_
  rw [← efv] at hfr
  obtain ⟨fr, hfr1, hfr2⟩ := hfr
  refine w_istore (pc' := 67) (L' := #[.val (.int lt), .val (.int md), .val (.long raw), .second, .val (.int f0), .val (.int ln), .val (.int (lt &&& (2147483647 : Int32))), .val (.ref b1), .val (.int fv), .unset, .unset, .unset, .unset]) X4 at_65 rfl rfl ?_
  refine w_iload (pc' := 69) X4 at_67 rfl rfl ?_
  refine w_bipush (pc' := 71) (z := (7 : Int32)) X4 at_69 rfl rfl ?_
  refine w_iand (pc' := 72) X4 at_71 rfl ?_
  refine w_iconst (pc' := 73) (z := (5 : Int32)) X4 at_72 rfl rfl ?_
  refine w_iload (pc' := 75) X4 at_73 rfl rfl ?_
  refine w_isub (pc' := 76) X4 at_75 rfl ?_
  refine w_callS (pc' := 79) (wd := 0) (argsL := [(.int (ln &&& (7 : Int32))), (.int ((5 : Int32) - fv))]) (rest := []) (Q2 := (rm1_Q Z (ln &&& (7 : Int32)) ((5 : Int32) - fv) h4 n0)) X4 at_76 (hw _ (List.mem_of_getElem? (i := 2) rfl)) (hw _ (List.mem_of_getElem? (i := 3) rfl)) (hw _ (List.mem_of_getElem? (i := 4) rfl)) (hw _ (List.mem_of_getElem? (i := 5) rfl)) (by decide) (rm1 l Z a0 hw [] (ln &&& (7 : Int32)) ((5 : Int32) - fv) h4 n0 X4.size) pd_111 rfl rfl rfl (Nat.le_of_eq rfl) (by decide) (fun v5 T5 h5 X5 q5 => ?_)
  obtain ⟨rfl, rfl⟩ := q5
  obtain ⟨lv, elv⟩ : ∃ z : Int32, z = (own_min (ln &&& (7 : Int32)) ((5 : Int32) - fv)) := ⟨_, rfl⟩
  refine w_topI elv.symm ?_
  refine w_istore (pc' := 81) (L' := #[.val (.int lt), .val (.int md), .val (.long raw), .second, .val (.int f0), .val (.int ln), .val (.int (lt &&& (2147483647 : Int32))), .val (.ref b1), .val (.int fv), .val (.int lv), .unset, .unset, .unset]) X5 at_79 rfl rfl ?_
  refine w_iload (pc' := 83) X5 at_81 rfl rfl ?_
  refine w_iload (pc' := 85) X5 at_83 rfl rfl ?_
  refine w_iadd (pc' := 86) X5 at_85 rfl ?_
  refine w_istore (pc' := 88) (L' := #[.val (.int lt), .val (.int md), .val (.long raw), .second, .val (.int f0), .val (.int ln), .val (.int (lt &&& (2147483647 : Int32))), .val (.ref b1), .val (.int fv), .val (.int lv), .val (.int (fv + lv)), .unset, .unset]) X5 at_86 rfl rfl ?_
  refine w_iconst (pc' := 89) (z := (5 : Int32)) X5 at_88 rfl rfl ?_
  refine w_newarray (pc' := 91) (n := 5) (cap := 5) X5 at_89 (hw _ (List.mem_of_getElem? (i := 1) rfl)) rfl (by decide) (by decide) (fun T6 h6 b6 X6 E6 q6 g6 F6 => ?_)
  have ne7 : b1 ≠ b6 := ne_size q6 Fw.lt
  have F8 := Fw.ext E6
  refine w_astore (pc' := 93) (L' := #[.val (.int lt), .val (.int md), .val (.long raw), .second, .val (.int f0), .val (.int ln), .val (.int (lt &&& (2147483647 : Int32))), .val (.ref b1), .val (.int fv), .val (.int lv), .val (.int (fv + lv)), .val (.ref b6), .unset]) X6 at_91 rfl rfl rfl ?_
  refine w_aload (pc' := 95) X6 at_93 rfl rfl rfl ?_
  refine w_iconst (pc' := 96) (z := (0 : Int32)) X6 at_95 rfl rfl ?_
  refine w_iconst (pc' := 97) (z := (0 : Int32)) X6 at_96 rfl rfl ?_
  refine w_iload (pc' := 99) X6 at_97 rfl rfl ?_
  refine w_aload (pc' := 101) X6 at_99 rfl rfl rfl ?_
  refine w_iloadN (pc' := 102) X6 at_101 rfl rfl ?_
  refine w_lloadN (pc' := 103) X6 at_102 rfl rfl ?_
  refine w_callS (pc' := 106) (wd := 2) (argsL := [(.int (0 : Int32)), (.int fv), (.ref b1), (.int md), (.long raw)]) (rest := [(.int (0 : Int32)), (.ref b6)]) (Q2 := (rm2_Q Z (0 : Int32) fv b1 md raw (own_l3 l0 l1 l2) h6 n0)) X6 at_103 (hw _ (List.mem_of_getElem? (i := 6) rfl)) (hw _ (List.mem_of_getElem? (i := 7) rfl)) (hw _ (List.mem_of_getElem? (i := 8) rfl)) (hw _ (List.mem_of_getElem? (i := 9) rfl)) (by decide) (rm2 l Z a0 hw [] (0 : Int32) fv b1 md raw (own_l3 l0 l1 l2) h6 n0 X6.size F8) pd_112 rfl rfl rfl (Nat.le_of_eq rfl) (by decide) (fun v9 T9 h9 X9 q9 => ?_)
  obtain ⟨z9, rfl, rfl⟩ := q9
  refine w_bastoreB (pc' := 107) (i := 0) X9 F6 at_106 rfl (by decide) rfl g6 (fun T10 h10 X10 W10 => ?_)
  have F11 := F8.other W10 ne7
  have F10 := F6.set W10
  refine w_aload (pc' := 109) X10 at_107 rfl rfl rfl ?_
  refine w_iconst (pc' := 110) (z := (1 : Int32)) X10 at_109 rfl rfl ?_
  refine w_iconst (pc' := 111) (z := (1 : Int32)) X10 at_110 rfl rfl ?_
  refine w_iload (pc' := 113) X10 at_111 rfl rfl ?_
  refine w_aload (pc' := 115) X10 at_113 rfl rfl rfl ?_
  refine w_iloadN (pc' := 116) X10 at_115 rfl rfl ?_
  refine w_lloadN (pc' := 117) X10 at_116 rfl rfl ?_
  refine w_callS (pc' := 120) (wd := 2) (argsL := [(.int (1 : Int32)), (.int fv), (.ref b1), (.int md), (.long raw)]) (rest := [(.int (1 : Int32)), (.ref b6)]) (Q2 := (rm2_Q Z (1 : Int32) fv b1 md raw (own_l3 l0 l1 l2) h10 n0)) X10 at_117 (hw _ (List.mem_of_getElem? (i := 6) rfl)) (hw _ (List.mem_of_getElem? (i := 7) rfl)) (hw _ (List.mem_of_getElem? (i := 8) rfl)) (hw _ (List.mem_of_getElem? (i := 9) rfl)) (by decide) (rm2 l Z a0 hw [] (1 : Int32) fv b1 md raw (own_l3 l0 l1 l2) h10 n0 X10.size F11) pd_112 rfl rfl rfl (Nat.le_of_eq rfl) (by decide) (fun v12 T12 h12 X12 q12 => ?_)
  obtain ⟨z12, rfl, rfl⟩ := q12
  refine w_bastoreB (pc' := 121) (i := 1) X12 F10 at_120 rfl (by decide) rfl g6 (fun T13 h13 X13 W13 => ?_)
  have F14 := F11.other W13 ne7
  have F13 := F10.set W13
  refine w_aload (pc' := 123) X13 at_121 rfl rfl rfl ?_
  refine w_iconst (pc' := 124) (z := (2 : Int32)) X13 at_123 rfl rfl ?_
  refine w_iconst (pc' := 125) (z := (2 : Int32)) X13 at_124 rfl rfl ?_
  refine w_iload (pc' := 127) X13 at_125 rfl rfl ?_
  refine w_aload (pc' := 129) X13 at_127 rfl rfl rfl ?_
  refine w_iloadN (pc' := 130) X13 at_129 rfl rfl ?_
  refine w_lloadN (pc' := 131) X13 at_130 rfl rfl ?_
  refine w_callS (pc' := 134) (wd := 2) (argsL := [(.int (2 : Int32)), (.int fv), (.ref b1), (.int md), (.long raw)]) (rest := [(.int (2 : Int32)), (.ref b6)]) (Q2 := (rm2_Q Z (2 : Int32) fv b1 md raw (own_l3 l0 l1 l2) h13 n0)) X13 at_131 (hw _ (List.mem_of_getElem? (i := 6) rfl)) (hw _ (List.mem_of_getElem? (i := 7) rfl)) (hw _ (List.mem_of_getElem? (i := 8) rfl)) (hw _ (List.mem_of_getElem? (i := 9) rfl)) (by decide) (rm2 l Z a0 hw [] (2 : Int32) fv b1 md raw (own_l3 l0 l1 l2) h13 n0 X13.size F14) pd_112 rfl rfl rfl (Nat.le_of_eq rfl) (by decide) (fun v15 T15 h15 X15 q15 => ?_)
  obtain ⟨z15, rfl, rfl⟩ := q15
  refine w_bastoreB (pc' := 135) (i := 2) X15 F13 at_134 rfl (by decide) rfl g6 (fun T16 h16 X16 W16 => ?_)
  have F17 := F14.other W16 ne7
  have F16 := F13.set W16
  refine w_aload (pc' := 137) X16 at_135 rfl rfl rfl ?_
  refine w_iconst (pc' := 138) (z := (3 : Int32)) X16 at_137 rfl rfl ?_
  refine w_iconst (pc' := 139) (z := (3 : Int32)) X16 at_138 rfl rfl ?_
  refine w_iload (pc' := 141) X16 at_139 rfl rfl ?_
  refine w_aload (pc' := 143) X16 at_141 rfl rfl rfl ?_
  refine w_iloadN (pc' := 144) X16 at_143 rfl rfl ?_
  refine w_lloadN (pc' := 145) X16 at_144 rfl rfl ?_
  refine w_callS (pc' := 148) (wd := 2) (argsL := [(.int (3 : Int32)), (.int fv), (.ref b1), (.int md), (.long raw)]) (rest := [(.int (3 : Int32)), (.ref b6)]) (Q2 := (rm2_Q Z (3 : Int32) fv b1 md raw (own_l3 l0 l1 l2) h16 n0)) X16 at_145 (hw _ (List.mem_of_getElem? (i := 6) rfl)) (hw _ (List.mem_of_getElem? (i := 7) rfl)) (hw _ (List.mem_of_getElem? (i := 8) rfl)) (hw _ (List.mem_of_getElem? (i := 9) rfl)) (by decide) (rm2 l Z a0 hw [] (3 : Int32) fv b1 md raw (own_l3 l0 l1 l2) h16 n0 X16.size F17) pd_112 rfl rfl rfl (Nat.le_of_eq rfl) (by decide) (fun v18 T18 h18 X18 q18 => ?_)
  obtain ⟨z18, rfl, rfl⟩ := q18
  refine w_bastoreB (pc' := 149) (i := 3) X18 F16 at_148 rfl (by decide) rfl g6 (fun T19 h19 X19 W19 => ?_)
  have F20 := F17.other W19 ne7
  have F19 := F16.set W19
  refine w_aload (pc' := 151) X19 at_149 rfl rfl rfl ?_
  refine w_iconst (pc' := 152) (z := (4 : Int32)) X19 at_151 rfl rfl ?_
  refine w_iconst (pc' := 153) (z := (4 : Int32)) X19 at_152 rfl rfl ?_
  refine w_iload (pc' := 155) X19 at_153 rfl rfl ?_
  refine w_aload (pc' := 157) X19 at_155 rfl rfl rfl ?_
  refine w_iloadN (pc' := 158) X19 at_157 rfl rfl ?_
  refine w_lloadN (pc' := 159) X19 at_158 rfl rfl ?_
  refine w_callS (pc' := 162) (wd := 2) (argsL := [(.int (4 : Int32)), (.int fv), (.ref b1), (.int md), (.long raw)]) (rest := [(.int (4 : Int32)), (.ref b6)]) (Q2 := (rm2_Q Z (4 : Int32) fv b1 md raw (own_l3 l0 l1 l2) h19 n0)) X19 at_159 (hw _ (List.mem_of_getElem? (i := 6) rfl)) (hw _ (List.mem_of_getElem? (i := 7) rfl)) (hw _ (List.mem_of_getElem? (i := 8) rfl)) (hw _ (List.mem_of_getElem? (i := 9) rfl)) (by decide) (rm2 l Z a0 hw [] (4 : Int32) fv b1 md raw (own_l3 l0 l1 l2) h19 n0 X19.size F20) pd_112 rfl rfl rfl (Nat.le_of_eq rfl) (by decide) (fun v21 T21 h21 X21 q21 => ?_)
  obtain ⟨z21, rfl, rfl⟩ := q21
  refine w_bastoreB (pc' := 163) (i := 4) X21 F19 at_162 rfl (by decide) rfl g6 (fun T22 h22 X22 W22 => ?_)
  have F23 := F20.other W22 ne7
  have F22 := F19.set W22
  obtain ⟨txf, Ft24⟩ : ∃ f : Nat → Int32, AF Z h22 b6 .byte 5 (fun j => .int (f j)) := ⟨own_5 (z9.toInt8.toInt32) (z12.toInt8.toInt32) (z15.toInt8.toInt32) (z18.toInt8.toInt32) (z21.toInt8.toInt32), F22.congr (by
    intro j hj
    match j, hj with
    | 0, _ => rfl
    | 1, _ => rfl
    | 2, _ => rfl
    | 3, _ => rfl
    | 4, _ => rfl
    | _ + 5, hj => exact absurd hj (by omega))⟩
  refine w_iload (pc' := 165) X22 at_163 rfl rfl ?_
  refine w_iconst (pc' := 166) (z := (3 : Int32)) X22 at_165 rfl rfl ?_
  refine w_icmp_ne (pc1 := 222) (pc2 := 169) X22 at_166 (by decide) (fun (hc166 : lv ≠ (3 : Int32)) => ?_) (fun (hc166 : lv = (3 : Int32)) => ?_)
  · refine w_iconst (pc' := 223) (z := (0 : Int32)) X22 at_222 rfl rfl ?_
    refine w_istore (pc' := 225) (L' := #[.val (.int lt), .val (.int md), .val (.long raw), .second, .val (.int f0), .val (.int ln), .val (.int (lt &&& (2147483647 : Int32))), .val (.ref b1), .val (.int fv), .val (.int lv), .val (.int (fv + lv)), .val (.ref b6), .val (.int (0 : Int32))]) X22 at_223 rfl rfl ?_
    refine w_aload (pc' := 227) X22 at_225 rfl rfl rfl ?_
    refine w_aload (pc' := 229) X22 at_227 rfl rfl rfl ?_
    refine w_iload (pc' := 231) X22 at_229 rfl rfl ?_
    refine w_iload (pc' := 233) X22 at_231 rfl rfl ?_
    refine w_callS (pc' := 236) (wd := 0) (argsL := [(.ref b1), (.ref b6), (.int fv), (.int (fv + lv))]) (rest := []) (Q2 := (rmx_Q Z b1 b6 fv (fv + lv) (own_l3 l0 l1 l2) h22 n0)) X22 at_233 (hw _ (List.mem_of_getElem? (i := 13) rfl)) (hw _ (List.mem_of_getElem? (i := 14) rfl)) (hw _ (List.mem_of_getElem? (i := 15) rfl)) (hw _ (List.mem_of_getElem? (i := 16) rfl)) (by decide) (rmx l Z a0 hw [] b1 b6 fv (fv + lv) (own_l3 l0 l1 l2) h22 n0 X22.size F23 (fun q => hc166 (own_sub.symm.trans q))) pd_113 rfl rfl rfl (Nat.le_of_eq rfl) (by decide) (fun v25 T25 h25 X25 q25 => ?_)
    obtain ⟨rfl, rfl⟩ := q25
    refine w_iload (pc' := 238) X25 at_236 rfl rfl ?_
    refine w_icmp_ne (pc1 := 245) (pc2 := 241) X25 at_238 (by decide) (fun (hc238 : (0 : Int32) ≠ (0 : Int32)) => absurd rfl hc238) (fun (hc238 : (0 : Int32) = (0 : Int32)) => ?_)
    refine w_iconst (pc' := 242) (z := (1 : Int32)) X25 at_241 rfl rfl ?_
    refine w_goto (pc' := 246) X25 at_242 (by decide) ?_
    exact w_nreturn (t := .boolean) X25 at_246 rfl (by simp) (rfl)
  · have hf5 := own_len hfr1 hfr2 (elv.symm.trans hc166)
    refine w_aload (pc' := 171) X22 at_169 rfl rfl rfl ?_
    refine w_iload (pc' := 173) X22 at_171 rfl rfl ?_
    refine w_baloadB (pc' := 174) (i := fr) (v := (.int (txf fr))) X22 Ft24 at_173 hfr1 (by omega) rfl rfl ?_
    refine w_aload (pc' := 176) X22 at_174 rfl rfl rfl ?_
    refine w_iconst (pc' := 177) (z := (0 : Int32)) X22 at_176 rfl rfl ?_
    refine w_baloadB (pc' := 178) (i := 0) (v := (.int ((own_l3 l0 l1 l2) 0))) X22 F23 at_177 rfl (by decide) rfl rfl ?_
    refine w_callS (pc' := 181) (wd := 0) (argsL := [(.int (txf fr)), (.int ((own_l3 l0 l1 l2) 0))]) (rest := []) (Q2 := (rm3_Q Z (txf fr) ((own_l3 l0 l1 l2) 0) h22 n0)) X22 at_178 (hw _ (List.mem_of_getElem? (i := 10) rfl)) (hw _ (List.mem_of_getElem? (i := 11) rfl)) (hw _ (List.mem_of_getElem? (i := 8) rfl)) (hw _ (List.mem_of_getElem? (i := 12) rfl)) (by decide) (rm3 l Z a0 hw [] (txf fr) ((own_l3 l0 l1 l2) 0) h22 n0 X22.size) pd_114 rfl rfl rfl (Nat.le_of_eq rfl) (by decide) (fun v26 T26 h26 X26 q26 => ?_)
    obtain ⟨rfl, rfl⟩ := q26
    refine w_if_eq (pc1 := 222) (pc2 := 184) X26 at_181 (by decide) (fun (hc181 : (own_fits (txf fr) ((own_l3 l0 l1 l2) 0)) = (0 : Int32)) => ?_) (fun (hc181 : (own_fits (txf fr) ((own_l3 l0 l1 l2) 0)) ≠ (0 : Int32)) => ?_)
    · refine w_iconst (pc' := 223) (z := (0 : Int32)) X26 at_222 rfl rfl ?_
      refine w_istore (pc' := 225) (L' := #[.val (.int lt), .val (.int md), .val (.long raw), .second, .val (.int f0), .val (.int ln), .val (.int (lt &&& (2147483647 : Int32))), .val (.ref b1), .val (.int fv), .val (.int lv), .val (.int (fv + lv)), .val (.ref b6), .val (.int (0 : Int32))]) X26 at_223 rfl rfl ?_
      refine w_aload (pc' := 227) X26 at_225 rfl rfl rfl ?_
      refine w_aload (pc' := 229) X26 at_227 rfl rfl rfl ?_
      refine w_iload (pc' := 231) X26 at_229 rfl rfl ?_
      refine w_iload (pc' := 233) X26 at_231 rfl rfl ?_
      have Ft27 : AF Z h22 b6 .byte 5 (fun j => .int (txf j)) := Ft24
      refine w_callS (pc' := 236) (wd := 0) (argsL := [(.ref b1), (.ref b6), (.int fv), (.int (fv + lv))]) (rest := []) (Q2 := (rmw_Q Z b1 b6 fv (fv + lv) (own_l3 l0 l1 l2) txf fr h22 n0)) X26 at_233 (hw _ (List.mem_of_getElem? (i := 13) rfl)) (hw _ (List.mem_of_getElem? (i := 14) rfl)) (hw _ (List.mem_of_getElem? (i := 15) rfl)) (hw _ (List.mem_of_getElem? (i := 16) rfl)) (by decide) (rmw l Z a0 hw [] b1 b6 fv (fv + lv) (own_l3 l0 l1 l2) txf fr h22 n0 X26.size F23 Ft27 (own_sub.trans hc166) hfr1 (own_len hfr1 hfr2 (elv.symm.trans hc166))) pd_113 rfl rfl rfl (Nat.le_of_eq rfl) (by decide) (fun v27 T27 h27 X27 q27 => ?_)
      obtain ⟨rfl, rfl⟩ := q27
      refine w_iload (pc' := 238) X27 at_236 rfl rfl ?_
      refine w_icmp_ne (pc1 := 245) (pc2 := 241) X27 at_238 (by decide) (fun (hc238 : (own_w txf (own_l3 l0 l1 l2) fr) ≠ (0 : Int32)) => by first | exact absurd (own_w0 (Or.inl (own_f0 hl0.1 hl0.2 hc181))) hc238 | exact absurd (own_w0 (Or.inr (Or.inl (own_f0 hl1.1 hl1.2 hc198)))) hc238 | exact absurd (own_w0 (Or.inr (Or.inr (own_f0 hl2.1 hl2.2 hc215)))) hc238) (fun (hc238 : (own_w txf (own_l3 l0 l1 l2) fr) = (0 : Int32)) => ?_)
      refine w_iconst (pc' := 242) (z := (1 : Int32)) X27 at_241 rfl rfl ?_
      refine w_goto (pc' := 246) X27 at_242 (by decide) ?_
      exact w_nreturn (t := .boolean) X27 at_246 rfl (by simp) (rfl)
    · refine w_aload (pc' := 186) X26 at_184 rfl rfl rfl ?_
      refine w_iload (pc' := 188) X26 at_186 rfl rfl ?_
      refine w_iconst (pc' := 189) (z := (1 : Int32)) X26 at_188 rfl rfl ?_
      refine w_iadd (pc' := 190) X26 at_189 rfl ?_
      refine w_baloadB (pc' := 191) (i := (fr + 1)) (v := (.int (txf (fr + 1)))) X26 Ft24 at_190 (own_add hfr1 hfr2 1 rfl (by decide)) (by omega) rfl rfl ?_
      refine w_aload (pc' := 193) X26 at_191 rfl rfl rfl ?_
      refine w_iconst (pc' := 194) (z := (1 : Int32)) X26 at_193 rfl rfl ?_
      refine w_baloadB (pc' := 195) (i := 1) (v := (.int ((own_l3 l0 l1 l2) 1))) X26 F23 at_194 rfl (by decide) rfl rfl ?_
      refine w_callS (pc' := 198) (wd := 0) (argsL := [(.int (txf (fr + 1))), (.int ((own_l3 l0 l1 l2) 1))]) (rest := []) (Q2 := (rm3_Q Z (txf (fr + 1)) ((own_l3 l0 l1 l2) 1) h22 n0)) X26 at_195 (hw _ (List.mem_of_getElem? (i := 10) rfl)) (hw _ (List.mem_of_getElem? (i := 11) rfl)) (hw _ (List.mem_of_getElem? (i := 8) rfl)) (hw _ (List.mem_of_getElem? (i := 12) rfl)) (by decide) (rm3 l Z a0 hw [] (txf (fr + 1)) ((own_l3 l0 l1 l2) 1) h22 n0 X26.size) pd_114 rfl rfl rfl (Nat.le_of_eq rfl) (by decide) (fun v28 T28 h28 X28 q28 => ?_)
      obtain ⟨rfl, rfl⟩ := q28
      refine w_if_eq (pc1 := 222) (pc2 := 201) X28 at_198 (by decide) (fun (hc198 : (own_fits (txf (fr + 1)) ((own_l3 l0 l1 l2) 1)) = (0 : Int32)) => ?_) (fun (hc198 : (own_fits (txf (fr + 1)) ((own_l3 l0 l1 l2) 1)) ≠ (0 : Int32)) => ?_)
      · refine w_iconst (pc' := 223) (z := (0 : Int32)) X28 at_222 rfl rfl ?_
        refine w_istore (pc' := 225) (L' := #[.val (.int lt), .val (.int md), .val (.long raw), .second, .val (.int f0), .val (.int ln), .val (.int (lt &&& (2147483647 : Int32))), .val (.ref b1), .val (.int fv), .val (.int lv), .val (.int (fv + lv)), .val (.ref b6), .val (.int (0 : Int32))]) X28 at_223 rfl rfl ?_
        refine w_aload (pc' := 227) X28 at_225 rfl rfl rfl ?_
        refine w_aload (pc' := 229) X28 at_227 rfl rfl rfl ?_
        refine w_iload (pc' := 231) X28 at_229 rfl rfl ?_
        refine w_iload (pc' := 233) X28 at_231 rfl rfl ?_
        have Ft29 : AF Z h22 b6 .byte 5 (fun j => .int (txf j)) := Ft24
        refine w_callS (pc' := 236) (wd := 0) (argsL := [(.ref b1), (.ref b6), (.int fv), (.int (fv + lv))]) (rest := []) (Q2 := (rmw_Q Z b1 b6 fv (fv + lv) (own_l3 l0 l1 l2) txf fr h22 n0)) X28 at_233 (hw _ (List.mem_of_getElem? (i := 13) rfl)) (hw _ (List.mem_of_getElem? (i := 14) rfl)) (hw _ (List.mem_of_getElem? (i := 15) rfl)) (hw _ (List.mem_of_getElem? (i := 16) rfl)) (by decide) (rmw l Z a0 hw [] b1 b6 fv (fv + lv) (own_l3 l0 l1 l2) txf fr h22 n0 X28.size F23 Ft29 (own_sub.trans hc166) hfr1 (own_len hfr1 hfr2 (elv.symm.trans hc166))) pd_113 rfl rfl rfl (Nat.le_of_eq rfl) (by decide) (fun v29 T29 h29 X29 q29 => ?_)
        obtain ⟨rfl, rfl⟩ := q29
        refine w_iload (pc' := 238) X29 at_236 rfl rfl ?_
        refine w_icmp_ne (pc1 := 245) (pc2 := 241) X29 at_238 (by decide) (fun (hc238 : (own_w txf (own_l3 l0 l1 l2) fr) ≠ (0 : Int32)) => by first | exact absurd (own_w0 (Or.inl (own_f0 hl0.1 hl0.2 hc181))) hc238 | exact absurd (own_w0 (Or.inr (Or.inl (own_f0 hl1.1 hl1.2 hc198)))) hc238 | exact absurd (own_w0 (Or.inr (Or.inr (own_f0 hl2.1 hl2.2 hc215)))) hc238) (fun (hc238 : (own_w txf (own_l3 l0 l1 l2) fr) = (0 : Int32)) => ?_)
        refine w_iconst (pc' := 242) (z := (1 : Int32)) X29 at_241 rfl rfl ?_
        refine w_goto (pc' := 246) X29 at_242 (by decide) ?_
        exact w_nreturn (t := .boolean) X29 at_246 rfl (by simp) (rfl)
      · refine w_aload (pc' := 203) X28 at_201 rfl rfl rfl ?_
        refine w_iload (pc' := 205) X28 at_203 rfl rfl ?_
        refine w_iconst (pc' := 206) (z := (2 : Int32)) X28 at_205 rfl rfl ?_
        refine w_iadd (pc' := 207) X28 at_206 rfl ?_
        refine w_baloadB (pc' := 208) (i := (fr + 2)) (v := (.int (txf (fr + 2)))) X28 Ft24 at_207 (own_add hfr1 hfr2 2 rfl (by decide)) (by omega) rfl rfl ?_
        refine w_aload (pc' := 210) X28 at_208 rfl rfl rfl ?_
        refine w_iconst (pc' := 211) (z := (2 : Int32)) X28 at_210 rfl rfl ?_
        refine w_baloadB (pc' := 212) (i := 2) (v := (.int ((own_l3 l0 l1 l2) 2))) X28 F23 at_211 rfl (by decide) rfl rfl ?_
        refine w_callS (pc' := 215) (wd := 0) (argsL := [(.int (txf (fr + 2))), (.int ((own_l3 l0 l1 l2) 2))]) (rest := []) (Q2 := (rm3_Q Z (txf (fr + 2)) ((own_l3 l0 l1 l2) 2) h22 n0)) X28 at_212 (hw _ (List.mem_of_getElem? (i := 10) rfl)) (hw _ (List.mem_of_getElem? (i := 11) rfl)) (hw _ (List.mem_of_getElem? (i := 8) rfl)) (hw _ (List.mem_of_getElem? (i := 12) rfl)) (by decide) (rm3 l Z a0 hw [] (txf (fr + 2)) ((own_l3 l0 l1 l2) 2) h22 n0 X28.size) pd_114 rfl rfl rfl (Nat.le_of_eq rfl) (by decide) (fun v30 T30 h30 X30 q30 => ?_)
        obtain ⟨rfl, rfl⟩ := q30
        refine w_if_eq (pc1 := 222) (pc2 := 218) X30 at_215 (by decide) (fun (hc215 : (own_fits (txf (fr + 2)) ((own_l3 l0 l1 l2) 2)) = (0 : Int32)) => ?_) (fun (hc215 : (own_fits (txf (fr + 2)) ((own_l3 l0 l1 l2) 2)) ≠ (0 : Int32)) => ?_)
        · refine w_iconst (pc' := 223) (z := (0 : Int32)) X30 at_222 rfl rfl ?_
          refine w_istore (pc' := 225) (L' := #[.val (.int lt), .val (.int md), .val (.long raw), .second, .val (.int f0), .val (.int ln), .val (.int (lt &&& (2147483647 : Int32))), .val (.ref b1), .val (.int fv), .val (.int lv), .val (.int (fv + lv)), .val (.ref b6), .val (.int (0 : Int32))]) X30 at_223 rfl rfl ?_
          refine w_aload (pc' := 227) X30 at_225 rfl rfl rfl ?_
          refine w_aload (pc' := 229) X30 at_227 rfl rfl rfl ?_
          refine w_iload (pc' := 231) X30 at_229 rfl rfl ?_
          refine w_iload (pc' := 233) X30 at_231 rfl rfl ?_
          have Ft31 : AF Z h22 b6 .byte 5 (fun j => .int (txf j)) := Ft24
          refine w_callS (pc' := 236) (wd := 0) (argsL := [(.ref b1), (.ref b6), (.int fv), (.int (fv + lv))]) (rest := []) (Q2 := (rmw_Q Z b1 b6 fv (fv + lv) (own_l3 l0 l1 l2) txf fr h22 n0)) X30 at_233 (hw _ (List.mem_of_getElem? (i := 13) rfl)) (hw _ (List.mem_of_getElem? (i := 14) rfl)) (hw _ (List.mem_of_getElem? (i := 15) rfl)) (hw _ (List.mem_of_getElem? (i := 16) rfl)) (by decide) (rmw l Z a0 hw [] b1 b6 fv (fv + lv) (own_l3 l0 l1 l2) txf fr h22 n0 X30.size F23 Ft31 (own_sub.trans hc166) hfr1 (own_len hfr1 hfr2 (elv.symm.trans hc166))) pd_113 rfl rfl rfl (Nat.le_of_eq rfl) (by decide) (fun v31 T31 h31 X31 q31 => ?_)
          obtain ⟨rfl, rfl⟩ := q31
          refine w_iload (pc' := 238) X31 at_236 rfl rfl ?_
          refine w_icmp_ne (pc1 := 245) (pc2 := 241) X31 at_238 (by decide) (fun (hc238 : (own_w txf (own_l3 l0 l1 l2) fr) ≠ (0 : Int32)) => by first | exact absurd (own_w0 (Or.inl (own_f0 hl0.1 hl0.2 hc181))) hc238 | exact absurd (own_w0 (Or.inr (Or.inl (own_f0 hl1.1 hl1.2 hc198)))) hc238 | exact absurd (own_w0 (Or.inr (Or.inr (own_f0 hl2.1 hl2.2 hc215)))) hc238) (fun (hc238 : (own_w txf (own_l3 l0 l1 l2) fr) = (0 : Int32)) => ?_)
          refine w_iconst (pc' := 242) (z := (1 : Int32)) X31 at_241 rfl rfl ?_
          refine w_goto (pc' := 246) X31 at_242 (by decide) ?_
          exact w_nreturn (t := .boolean) X31 at_246 rfl (by simp) (rfl)
        · refine w_iconst (pc' := 219) (z := (1 : Int32)) X30 at_218 rfl rfl ?_
          refine w_goto (pc' := 223) X30 at_219 (by decide) ?_
          refine w_istore (pc' := 225) (L' := #[.val (.int lt), .val (.int md), .val (.long raw), .second, .val (.int f0), .val (.int ln), .val (.int (lt &&& (2147483647 : Int32))), .val (.ref b1), .val (.int fv), .val (.int lv), .val (.int (fv + lv)), .val (.ref b6), .val (.int (1 : Int32))]) X30 at_223 rfl rfl ?_
          refine w_aload (pc' := 227) X30 at_225 rfl rfl rfl ?_
          refine w_aload (pc' := 229) X30 at_227 rfl rfl rfl ?_
          refine w_iload (pc' := 231) X30 at_229 rfl rfl ?_
          refine w_iload (pc' := 233) X30 at_231 rfl rfl ?_
          have Ft32 : AF Z h22 b6 .byte 5 (fun j => .int (txf j)) := Ft24
          refine w_callS (pc' := 236) (wd := 0) (argsL := [(.ref b1), (.ref b6), (.int fv), (.int (fv + lv))]) (rest := []) (Q2 := (rmw_Q Z b1 b6 fv (fv + lv) (own_l3 l0 l1 l2) txf fr h22 n0)) X30 at_233 (hw _ (List.mem_of_getElem? (i := 13) rfl)) (hw _ (List.mem_of_getElem? (i := 14) rfl)) (hw _ (List.mem_of_getElem? (i := 15) rfl)) (hw _ (List.mem_of_getElem? (i := 16) rfl)) (by decide) (rmw l Z a0 hw [] b1 b6 fv (fv + lv) (own_l3 l0 l1 l2) txf fr h22 n0 X30.size F23 Ft32 (own_sub.trans hc166) hfr1 (own_len hfr1 hfr2 (elv.symm.trans hc166))) pd_113 rfl rfl rfl (Nat.le_of_eq rfl) (by decide) (fun v32 T32 h32 X32 q32 => ?_)
          obtain ⟨rfl, rfl⟩ := q32
          refine w_iload (pc' := 238) X32 at_236 rfl rfl ?_
          refine w_icmp_ne (pc1 := 245) (pc2 := 241) X32 at_238 (by decide) (fun (hc238 : (own_w txf (own_l3 l0 l1 l2) fr) ≠ (1 : Int32)) => absurd (own_w1 (own_f1 hl0.1 hl0.2 hc181) (own_f1 hl1.1 hl1.2 hc198) (own_f1 hl2.1 hl2.2 hc215)) hc238) (fun (hc238 : (own_w txf (own_l3 l0 l1 l2) fr) = (1 : Int32)) => ?_)
          refine w_iconst (pc' := 242) (z := (1 : Int32)) X32 at_241 rfl rfl ?_
          refine w_goto (pc' := 246) X32 at_242 (by decide) ?_
          exact w_nreturn (t := .boolean) X32 at_246 rfl (by simp) (rfl)
set_option maxRecDepth 65536 in
set_option maxHeartbeats 40000000 in
theorem comes_1 {Post : Tables → Env → Array Value → State → Outcome → State → Prop} (hpost : ∀ tb e args s v u, (limb_1_1.after args s (.returned v) u = true ∧ limb_1_2.after args s (.returned v) u = true ∧ True) → FrameEnd s (.returned v) u (Jvm.fieldLocs frame_1_writes args s ++ Jvm.arrayLocs frame_1_arrays args s ++ Jvm.staticLocs frame_1_statics s) 16 128 → Post tb e args s (.returned v) u) :
    ArmFor flags0 classFile x code maxLocals ret World_1 tables_1 room_1 Calls_1 rest_1 Pre_1 Post := by
  intro l hfl _ _ p e ha hc hk s m args below hf hA hF happ hP
  obtain ⟨hcalls, hrest, hpre⟩ := hP
  obtain ⟨-, -, -, hnamed, -, -, -, hat⟩ := (Spec.applies_iff hf).mp happ
  obtain ⟨hg, hn⟩ := and_e (Cond.before_iff.mp (show (Jvm.Cond.and given_1 narrow_1).before args s = true from hpre))
  obtain ⟨ga0, gb0⟩ := and_e hg
  obtain ⟨ga1, gb1⟩ := and_e gb0
  obtain ⟨ga2, gb2⟩ := and_e gb1
  obtain ⟨ga3, gb3⟩ := and_e gb2
  obtain ⟨ga4, gb4⟩ := and_e gb3
  obtain ⟨w0, w1, w2, w3, w4, rfl⟩ : ∃ w0 w1 w2 w3 w4 : Value, args = #[w0, w1, w2, w3, w4] := by
    have hs : args.size = 5 := by simpa [Cond.value, given_1] using ga0
    obtain ⟨L⟩ := args
    match L, hs with
    | [w0, w1, w2, w3, w4], _ => exact ⟨w0, w1, w2, w3, w4, rfl⟩
  have hw := fun d (hd : d ∈ tables_1) => atoms_spec (ws := Jvm.Cond.code x code maxLocals ret :: tables_1) hat d (List.mem_cons_of_mem _ hd)
  obtain ⟨i0, ei0⟩ := is_v ga1
  obtain rfl : w0 = (.int i0) := Option.some.inj ei0
  obtain ⟨i1, ei1⟩ := is_v ga2
  obtain rfl : w1 = (.int i1) := Option.some.inj ei1
  obtain ⟨i2, ei2⟩ := isL_v ga3
  obtain rfl : w2 = (.long i2) := Option.some.inj ei2
  obtain ⟨i3, ei3⟩ := is_v ga4
  obtain rfl : w3 = (.int i3) := Option.some.inj ei3
  obtain ⟨i4, ei4⟩ := is_v gb4
  obtain rfl : w4 = (.int i4) := Option.some.inj ei4
  obtain ⟨n, o, h1, h2, h3, _, L, rfl, ⟨N, -, rfl⟩, hq⟩ := rm0 l s _ hw tables_1 i0 i1 i2 i3 i4 s.heap s.heap.size (Nat.le_refl _) p e ha hc hk s m _ below hf ((Spec.applies_iff_loose hf).mp happ).1 ⟨rfl, State.Warmed39.refl s, rfl⟩ trivial
  refine ⟨n, _, h1, h2, h3, hpost _ _ _ _ _ _ ⟨Cond.after_iff.mpr rfl, Cond.after_iff.mpr (eq_i res_at (Term.int_eval (1)) rfl), trivial⟩ ⟨hq.1, hq.2.1, (hq.2.2.sift fun y hy => Or.inr (N y hy)).mono (by decide) (by decide)⟩⟩
theorem main_1_1 : Claimed_1_1 := comes_1 fun _ _ _ _ _ _ h hF => ⟨h.1, hF⟩
theorem main_1_2 : Claimed_1_2 := comes_1 fun _ _ _ _ _ _ h hF => ⟨h.2.1, hF⟩
end Jvm.Pilot.@@N@@
namespace Jvm.Pilot.@@N@@
open Jvm Jvm.ClassFile Sem Op Lib Jvm.Free Jvm.Stand Jvm.Pilot.@@N@@.Jvm.D
/-! MADE BY PROGRAM (witnessworld.py) out of the Statement's table words and the real class files: 10 classes; the members and pool entries that the words name. The judged class is class 1, her method 3. -/
namespace start1
open Jvm.ClassFile
def u (s : String) : CpInfo := .utf8 (stringToUtf16 s)
/-- a pool by its gaps: so many unusable entries, then the entry; so many at the end -/
def gap : Nat → List CpInfo → List CpInfo
  | 0, r => r
  | n + 1, r => .unusable :: gap n r
def poolList (es : List (Nat × CpInfo)) (last : Nat) : List CpInfo := es.foldr (fun e r => gap e.1 (e.2 :: r)) (gap last [])
def pool (es : List (Nat × CpInfo)) (last : Nat) : Array CpInfo := ⟨poolList es last⟩
def fileOf (pool : Array CpInfo) (this : Nat) (attrs : Array Attribute := #[]) (ms : Array MethodInfo := #[]) (fl : Nat := 33) (sup : Nat := 0) (ifs : Array Nat := #[]) (fds : Array FieldInfo := #[]) : ClassFile where
  minorVersion := 0
  majorVersion := 65
  constantPool := pool
  accessFlags := fl
  thisClass := this
  superClass := sup
  interfaces := ifs
  fields := fds
  methods := ms
  attributes := attrs
def plain (name : String) (sup : Option ClassId) : Class where
  name := name
  kind := .ordinary
  loader := none
  accessFlags := 33
  super := sup
  interfaces := #[]
  cf := none
  fields := #[]
  methods := #[]
  instanceTypes := #[]
  staticTypes := #[]
  resolved := #[]
  callSites := []
  init := .initialized
  statics := none
  mirror := none

def pool0 : Array CpInfo := pool [(5, u "<init>"), (0, u "()V"), (1, .class_ 10), (1, u "java/lang/Object")] 113

def k0m0 : Method := { name := "<init>", desc := "()V", sig := { parameters := [], returnType := none }, accessFlags := 1, code := none }
/-- java/lang/Object -/
def k0 : Class := { plain "java/lang/Object" none with
  accessFlags := 33
  interfaces := #[]
  cf := some (fileOf pool0 8 #[] #[{ accessFlags := 1, nameIndex := 5, descriptorIndex := 6, attributes := #[] }] 33 0 #[] #[])
  fields := #[]
  methods := #[k0m0]
  instanceTypes := #[]
  staticTypes := #[]
  resolved := Array.replicate 124 none
  statics := none }

def pool1 : Array CpInfo := pool [(2, .class_ 4), (1, u "java/lang/Object"), (0, u "<init>"), (0, u "()V"), (0, .integer 2147483647), (0, .methodref 9 10), (0, .class_ 11), (0, .nameAndType 12 13), (0, u "java/lang/Math"), (0, u "min"), (0, u "(II)I"), (0, .methodref 15 16), (0, .class_ 17), (0, .nameAndType 18 19), (0, u "com/example/partitioner/partitioner/schema/ValueTextIsWordPinLaw"), (0, u "cell"), (0, u "(II[BIJ)B"), (0, .methodref 15 21), (0, .nameAndType 22 23), (0, u "fits"), (0, u "(BB)Z"), (0, .methodref 25 26), (0, .class_ 27), (0, .nameAndType 28 29), (0, u "com/example/partitioner/partitioner/schema/ValueText"), (0, u "isWord"), (0, u "([B[BII)Z"), (3, u "law"), (0, u "(IIJII)Z")] 4

def k1m0 : Method := { name := "<init>", desc := "()V", sig := { parameters := [], returnType := none }, accessFlags := 1, code := none }
def k1c1 : Code := { maxStack := 3, maxLocals := 2, code := method_2_code, exceptionTable := #[], attributes := #[] }
def k1m1 : Method := { name := "fits", desc := "(BB)Z", sig := { parameters := [.byte, .byte], returnType := some .boolean }, accessFlags := 10, code := some k1c1 }
def k1c2 : Code := { maxStack := 4, maxLocals := 8, code := method_3_code, exceptionTable := #[], attributes := #[] }
def k1m2 : Method := { name := "cell", desc := "(II[BIJ)B", sig := { parameters := [.int, .int, (.array .byte), .int, .long], returnType := some .byte }, accessFlags := 10, code := some k1c2 }
def k1c3 : Code := { maxStack := 8, maxLocals := 13, code := code, exceptionTable := #[], attributes := #[] }
def k1m3 : Method := { name := "law", desc := "(IIJII)Z", sig := { parameters := [.int, .int, .long, .int, .int], returnType := some .boolean }, accessFlags := 9, code := some k1c3 }
/-- com/example/partitioner/partitioner/schema/ValueTextIsWordPinLaw -/
def k1 : Class := { plain "com/example/partitioner/partitioner/schema/ValueTextIsWordPinLaw" (some 0) with
  accessFlags := 49
  interfaces := #[]
  cf := some (fileOf pool1 15 #[] #[{ accessFlags := 1, nameIndex := 5, descriptorIndex := 6, attributes := #[] }, { accessFlags := 10, nameIndex := 22, descriptorIndex := 23, attributes := #[] }, { accessFlags := 10, nameIndex := 18, descriptorIndex := 19, attributes := #[] }, { accessFlags := 9, nameIndex := 33, descriptorIndex := 34, attributes := #[] }] 49 2 #[] #[])
  fields := #[]
  methods := #[k1m0, k1m1, k1m2, k1m3]
  instanceTypes := #[]
  staticTypes := #[]
  resolved := Array.replicate 39 none
  statics := none }

def pool2 : Array CpInfo := pool [(1, .class_ 2), (0, u "java/lang/Math"), (1, .class_ 6), (1, u "java/lang/Object"), (0, u "<init>"), (0, u "()V"), (89, .class_ 100), (1, u "java/lang/Math$RandomNumberGeneratorHolder"), (71, u "negativeZeroFloatBits"), (0, u "J"), (2, u "negativeZeroDoubleBits"), (24, u "min"), (43, u "$assertionsDisabled"), (0, u "Z"), (88, u "(II)I"), (2, u "twoToTheDoubleScaleDown"), (0, u "D"), (4, u "twoToTheDoubleScaleUp"), (9, u "E"), (3, u "PI"), (2, u "TAU"), (2, u "DEGREES_TO_RADIANS"), (0, u "RADIANS_TO_DEGREES")] 94

def k2m0 : Method := { name := "<init>", desc := "()V", sig := { parameters := [], returnType := none }, accessFlags := 2, code := none }
def k2c1 : Code := { maxStack := 2, maxLocals := 2, code := jdk_29_method_69_code, exceptionTable := #[], attributes := #[] }
def k2m1 : Method := { name := "min", desc := "(II)I", sig := { parameters := [.int, .int], returnType := some .int }, accessFlags := 9, code := some k2c1 }
/-- java/lang/Math -/
def k2 : Class := { plain "java/lang/Math" (some 0) with
  accessFlags := 49
  interfaces := #[]
  cf := some (fileOf pool2 1 #[.nestMembers #[98]] #[{ accessFlags := 2, nameIndex := 7, descriptorIndex := 8, attributes := #[] }, { accessFlags := 9, nameIndex := 201, descriptorIndex := 335, attributes := #[] }] 49 4 #[] #[{ accessFlags := 25, nameIndex := 354, descriptorIndex := 339, attributes := #[] }, { accessFlags := 25, nameIndex := 358, descriptorIndex := 339, attributes := #[] }, { accessFlags := 25, nameIndex := 361, descriptorIndex := 339, attributes := #[] }, { accessFlags := 26, nameIndex := 364, descriptorIndex := 339, attributes := #[] }, { accessFlags := 26, nameIndex := 365, descriptorIndex := 339, attributes := #[] }, { accessFlags := 26, nameIndex := 172, descriptorIndex := 173, attributes := #[] }, { accessFlags := 26, nameIndex := 176, descriptorIndex := 173, attributes := #[] }, { accessFlags := 8, nameIndex := 344, descriptorIndex := 339, attributes := #[] }, { accessFlags := 8, nameIndex := 338, descriptorIndex := 339, attributes := #[] }, { accessFlags := 4120, nameIndex := 245, descriptorIndex := 246, attributes := #[] }])
  fields := #[{ name := "E", type := .double, accessFlags := 25, slot := 0, constantValue := 0 }, { name := "PI", type := .double, accessFlags := 25, slot := 1, constantValue := 0 }, { name := "TAU", type := .double, accessFlags := 25, slot := 2, constantValue := 0 }, { name := "DEGREES_TO_RADIANS", type := .double, accessFlags := 26, slot := 3, constantValue := 0 }, { name := "RADIANS_TO_DEGREES", type := .double, accessFlags := 26, slot := 4, constantValue := 0 }, { name := "negativeZeroFloatBits", type := .long, accessFlags := 26, slot := 5, constantValue := 0 }, { name := "negativeZeroDoubleBits", type := .long, accessFlags := 26, slot := 6, constantValue := 0 }, { name := "twoToTheDoubleScaleUp", type := .double, accessFlags := 8, slot := 7, constantValue := 0 }, { name := "twoToTheDoubleScaleDown", type := .double, accessFlags := 8, slot := 8, constantValue := 0 }, { name := "$assertionsDisabled", type := .boolean, accessFlags := 4120, slot := 9, constantValue := 0 }]
  methods := #[k2m0, k2m1]
  instanceTypes := #[]
  staticTypes := #[.double, .double, .double, .double, .double, .long, .long, .double, .double, .boolean]
  resolved := Array.replicate 460 none
  statics := none }

def pool3 : Array CpInfo := pool [(2, .class_ 4), (1, u "java/lang/Object"), (0, u "<init>"), (0, u "()V"), (1, .class_ 10), (1, u "com/example/partitioner/partitioner/schema/ValueText"), (18, u "HEX_VALUES"), (0, u "[B"), (43, u "CASE_BIT"), (0, u "I"), (12, u "([B[BII)Z"), (0, u "isWord")] 7

def k3m0 : Method := { name := "<init>", desc := "()V", sig := { parameters := [], returnType := none }, accessFlags := 2, code := none }
def k3c1 : Code := { maxStack := 3, maxLocals := 7, code := prog_207_method_10_code, exceptionTable := #[], attributes := #[] }
def k3m1 : Method := { name := "isWord", desc := "([B[BII)Z", sig := { parameters := [(.array .byte), (.array .byte), .int, .int], returnType := some .boolean }, accessFlags := 8, code := some k3c1 }
/-- com/example/partitioner/partitioner/schema/ValueText -/
def k3 : Class := { plain "com/example/partitioner/partitioner/schema/ValueText" (some 0) with
  accessFlags := 48
  interfaces := #[]
  cf := some (fileOf pool3 8 #[] #[{ accessFlags := 2, nameIndex := 5, descriptorIndex := 6, attributes := #[] }, { accessFlags := 8, nameIndex := 89, descriptorIndex := 88, attributes := #[] }] 48 2 #[] #[{ accessFlags := 24, nameIndex := 74, descriptorIndex := 75, attributes := #[] }, { accessFlags := 26, nameIndex := 29, descriptorIndex := 30, attributes := #[] }])
  fields := #[{ name := "CASE_BIT", type := .int, accessFlags := 24, slot := 0, constantValue := 0 }, { name := "HEX_VALUES", type := (.array .byte), accessFlags := 26, slot := 1, constantValue := 0 }]
  methods := #[k3m0, k3m1]
  instanceTypes := #[]
  staticTypes := #[.int, (.array .byte)]
  resolved := Array.replicate 97 none
  statics := none }

def pool4 : Array CpInfo := pool [(1, u "java/lang/Cloneable"), (0, .class_ 1), (0, u "java/lang/Object"), (0, .class_ 3)] 3

/-- java/lang/Cloneable -/
def k4 : Class := { plain "java/lang/Cloneable" (some 0) with
  accessFlags := 1537
  interfaces := #[]
  cf := some (fileOf pool4 2 #[] #[] 1537 4 #[] #[])
  fields := #[]
  methods := #[]
  instanceTypes := #[]
  staticTypes := #[]
  resolved := Array.replicate 8 none
  statics := none }

def pool5 : Array CpInfo := pool [(1, u "java/io/Serializable"), (0, .class_ 1), (0, u "java/lang/Object"), (0, .class_ 3)] 3

/-- java/io/Serializable -/
def k5 : Class := { plain "java/io/Serializable" (some 0) with
  accessFlags := 1537
  interfaces := #[]
  cf := some (fileOf pool5 2 #[] #[] 1537 4 #[] #[])
  fields := #[]
  methods := #[]
  instanceTypes := #[]
  staticTypes := #[]
  resolved := Array.replicate 8 none
  statics := none }

/-- the primitive byte -/
def k6 : Class := { plain "byte" none with kind := .primitive 'B', accessFlags := 0x411 }
/-- [B -/
def k7 : Class := { plain "[B" (some 0) with kind := .array 6 .byte, interfaces := #[4, 5], accessFlags := 1041 }

/-- the primitive int -/
def k8 : Class := { plain "int" none with kind := .primitive 'I', accessFlags := 0x411 }
/-- [I -/
def k9 : Class := { plain "[I" (some 0) with kind := .array 8 .int, interfaces := #[4, 5], accessFlags := 1041 }

def heap : Heap := #[]
def classes : Array Class := #[k0, k1, k2, k3, k4, k5, k6, k7, k8, k9]
def interned : List (Array UInt16 × Addr) := []
def slotsUsed : Nat := 0
def theMethod : MethodId := ⟨1, 3⟩
def args0 : Array Value := #[.int 5, .int 3, .long 2, .int 7, .int 2]
def aboutOver (below : List Frame) : State where
  vm := { classes := classes, interned := interned.toArray }
  heap := heap
  slotsUsed := slotsUsed
  threads := #[{ frames := .invoking theMethod args0 :: below }]
def below0 : List Frame := [.native { method := ⟨0, 0⟩, args := #[] }]
def about1 : State := aboutOver below0
def p0 : Program := .bare "" "" ""
def e0 : Env := launch0.env 0 0 0
theorem w_frames : about1.frames = Frame.invoking theMethod args0 :: below0 := rfl
set_option maxRecDepth 65536 in
theorem w_args : argsFit about1.vm theMethod args0 = true := by decide +kernel
set_option maxRecDepth 65536 in
theorem w_heap : heapFits about1 = true := by decide +kernel
set_option maxRecDepth 65536 in
theorem w_runnable : about1.curStatus? = some .runnable := by decide +kernel
set_option maxRecDepth 65536 in
theorem w_alone : about1.alone = true := by decide +kernel
set_option maxRecDepth 65536 in
theorem w_named : about1.methodNamed? x = some theMethod := by decide +kernel
set_option maxRecDepth 65536 in
theorem w_hears : about1.hears theMethod below0 = true := by decide +kernel
set_option maxRecDepth 65536 in
theorem w_ripe : about1.ripe theMethod args0 below0 = true := by decide +kernel
theorem w_running : about1.status = .running := rfl
set_option maxRecDepth 65536 in
theorem w_room : about1.hasRoom e0.platform room_1 = true :=
  launch0.hasRoom_least _ room_1 (by decide +kernel) (by decide +kernel) (by decide +kernel) (by decide +kernel) (by decide +kernel) (by decide +kernel)
theorem allAtoms_all (ts : List Jvm.Cond) (a : Array Jvm.Value) (st : Jvm.State) : (allAtoms ts).before a st = ts.all (fun c => c.before a st) := by
  induction ts with
  | nil => rfl
  | cons c t ih =>
    show (Jvm.Cond.and c (allAtoms t)).before a st = _
    rw [Jvm.Cond.before_and, ih, List.all_cons]
def words1 : List Jvm.Cond := Jvm.Cond.code x code maxLocals ret :: tables_1
/-- a 'code' word, met by the world's own term for the bytes: nothing is compared byte by byte -/
theorem code_word {y : MethodName} {bytes : ByteArray} {mx : Nat} {rt : Option FieldType} {a : Array Value} {s : State} {m : MethodId} {meth : Method} {c : Code} (h1 : s.methodNamed? y = some m) (h2 : s.vm.method? m = some meth) (h3 : meth.code = some c) (h4 : c.code = bytes)
    (h5 : (c.maxLocals == mx && c.exceptionTable.isEmpty && decide (c.maxStack ≤ mostOperands) && decide (meth.sig.returnType = rt) && !meth.locks && decide (parseMethodDescriptor y.desc = some meth.sig)) = true) : (Jvm.Cond.code y bytes mx rt).before a s = true := by
  simp only [Bool.and_eq_true, beq_iff_eq, Bool.not_eq_true', decide_eq_true_eq] at h5
  obtain ⟨⟨⟨⟨⟨g1, g2⟩, g3⟩, g4⟩, g5⟩, g6⟩ := h5
  simp [Cond.before, Cond.holds, Cond.value, h1, h2, h3, h4, g1, g2, g3, g4, g5, g6]
def isCode : Jvm.Cond → Bool
  | .code _ _ _ _ => true
  | _ => false
theorem all_split {L : List Jvm.Cond} {P : Jvm.Cond → Bool} (h1 : L.all (fun c => isCode c || P c) = true) (h2 : ∀ c ∈ L.filter isCode, P c = true) : L.all P = true := by
  refine List.all_eq_true.mpr fun c hc => ?_
  have h := List.all_eq_true.mp h1 c hc
  rcases Bool.eq_false_or_eq_true (isCode c) with hi | hi
  · exact h2 c (List.mem_filter.mpr ⟨hc, hi⟩)
  · simpa [hi] using h
set_option maxRecDepth 65536 in
theorem w_c0 : (Jvm.Cond.code x code maxLocals ret).before args0 about1 = true := code_word (m := ⟨1, 3⟩) (meth := k1m3) (c := k1c3) (by decide +kernel) rfl rfl rfl (by decide +kernel)
set_option maxRecDepth 65536 in
theorem w_c1 : (Jvm.Cond.code ({ cls := "java/lang/Math", name := "min", desc := "(II)I" } : Jvm.MethodName) jdk_29_method_69_code (2 : Nat) (Option.some Jvm.ClassFile.FieldType.int)).before args0 about1 = true := code_word (m := ⟨2, 1⟩) (meth := k2m1) (c := k2c1) (by decide +kernel) rfl rfl rfl (by decide +kernel)
set_option maxRecDepth 65536 in
theorem w_c2 : (Jvm.Cond.code ({ cls := "com/example/partitioner/partitioner/schema/ValueTextIsWordPinLaw", name := "cell", desc := "(II[BIJ)B" } : Jvm.MethodName) method_3_code (8 : Nat) (Option.some Jvm.ClassFile.FieldType.byte)).before args0 about1 = true := code_word (m := ⟨1, 2⟩) (meth := k1m2) (c := k1c2) (by decide +kernel) rfl rfl rfl (by decide +kernel)
set_option maxRecDepth 65536 in
theorem w_c3 : (Jvm.Cond.code ({ cls := "com/example/partitioner/partitioner/schema/ValueTextIsWordPinLaw", name := "fits", desc := "(BB)Z" } : Jvm.MethodName) method_2_code (2 : Nat) (Option.some Jvm.ClassFile.FieldType.boolean)).before args0 about1 = true := code_word (m := ⟨1, 1⟩) (meth := k1m1) (c := k1c1) (by decide +kernel) rfl rfl rfl (by decide +kernel)
set_option maxRecDepth 65536 in
theorem w_c4 : (Jvm.Cond.code ({ cls := "com/example/partitioner/partitioner/schema/ValueText", name := "isWord", desc := "([B[BII)Z" } : Jvm.MethodName) prog_207_method_10_code (7 : Nat) (Option.some Jvm.ClassFile.FieldType.boolean)).before args0 about1 = true := code_word (m := ⟨3, 1⟩) (meth := k3m1) (c := k3c1) (by decide +kernel) rfl rfl rfl (by decide +kernel)
def codes1 : List Jvm.Cond := [Jvm.Cond.code x code maxLocals ret, Jvm.Cond.code ({ cls := "java/lang/Math", name := "min", desc := "(II)I" } : Jvm.MethodName) jdk_29_method_69_code (2 : Nat) (Option.some Jvm.ClassFile.FieldType.int), Jvm.Cond.code ({ cls := "com/example/partitioner/partitioner/schema/ValueTextIsWordPinLaw", name := "cell", desc := "(II[BIJ)B" } : Jvm.MethodName) method_3_code (8 : Nat) (Option.some Jvm.ClassFile.FieldType.byte), Jvm.Cond.code ({ cls := "com/example/partitioner/partitioner/schema/ValueTextIsWordPinLaw", name := "fits", desc := "(BB)Z" } : Jvm.MethodName) method_2_code (2 : Nat) (Option.some Jvm.ClassFile.FieldType.boolean), Jvm.Cond.code ({ cls := "com/example/partitioner/partitioner/schema/ValueText", name := "isWord", desc := "([B[BII)Z" } : Jvm.MethodName) prog_207_method_10_code (7 : Nat) (Option.some Jvm.ClassFile.FieldType.boolean)]
set_option maxRecDepth 65536 in
theorem codes_eq : words1.filter isCode = codes1 := rfl
theorem w_codes : ∀ c ∈ words1.filter isCode, c.before args0 about1 = true := by
  rw [codes_eq]
  intro c hc
  simp only [codes1, List.mem_cons, List.not_mem_nil, or_false] at hc
  rcases hc with rfl | rfl | rfl | rfl | rfl
  · exact w_c0
  · exact w_c1
  · exact w_c2
  · exact w_c3
  · exact w_c4
set_option maxRecDepth 65536 in
theorem w_t1 : words1.all (fun c => isCode c || c.before args0 about1) = true := by decide +kernel
theorem w_tables : (allAtoms (Jvm.Cond.code x code maxLocals ret :: tables_1)).before args0 about1 = true := by
  rw [allAtoms_all]
  show words1.all (fun c => c.before args0 about1) = true
  refine all_split ?_ w_codes
  rw [w_t1]
set_option maxRecDepth 65536 in
theorem w_case : (Jvm.Cond.and given_1 narrow_1).before args0 about1 = true := by decide +kernel
theorem w_applies : (headSpec (Jvm.Cond.code x code maxLocals ret :: tables_1) room_1).applies x e0.platform about1 = true :=
  (Spec.applies_iff w_frames).mpr ⟨w_running, w_runnable, w_alone, w_named, w_hears, w_ripe, w_room, w_tables⟩
theorem atStart : AtStart classFile x code maxLocals ret World_1 tables_1 room_1 Calls_1 rest_1 Pre_1 launch0 p0 e0 about1 theMethod args0 below0 :=
  ⟨lists_1, trivial, launch0.admits_env _ _ _, launch0.least_env, fairChoices_fair.cas, fairChoices_fair.clock, w_frames, w_args, w_heap, w_applies, trivial, trivial, w_case⟩
end start1
theorem witness_1 : WitnessClaimed_1 := ⟨start1.p0, start1.e0, start1.about1, start1.theMethod, start1.args0, start1.below0, start1.atStart⟩
end Jvm.Pilot.@@N@@
