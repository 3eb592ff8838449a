import JvmDerived
import JvmDerived.Pilot.@@N@@Statement
import JvmDerived.Pilot.@@N@@Code
set_option linter.unusedVariables false
set_option linter.unusedSimpArgs false
@@BLOCK:NumsL.lean.txt@@
namespace Jvm.OwnW
open Jvm Jvm.ClassFile Sem Op Lib Jvm.Free Jvm.Stand Jvm.LawKit Jvm.RoadKit
/-! what is left to be shown, and where the run stands -/
def Qc (n0 : Nat) (Q : Option Value → Heap → Prop) (v : Option Value) (h : Heap) (L : List Loc) : Prop := Fr n0 L ∧ n0 ≤ h.size ∧ Q v h
def W (p : Program) (e : Env) (below : List Frame) (s : State) (R : Room) (n0 : Nat) (Q : Option Value → Heap → Prop) (S0 : State) : Prop :=
  ∃ s₂ o, Steps p.tables e below S0 s₂ ∧ s₂.status = .running ∧ Ended s₂ below o ∧ ∃ v L, o = .returned v ∧ Qc n0 Q v s₂.heap L ∧ FrameEnd s o s₂ L R.cells R.slots
def Sn (Z : State) (n0 : Nat) (bs : ByteArray) (mx : Nat) (own nm : String) (ret : Option FieldType) (p : Program) (l : Launch) (e : Env) (R : Room) (s : State) (m : MethodId) (args : Array Value) (below : List Frame) (meth : Method) (c : Code) (T : State) (h : Heap) (cells slots : Nat) : Prop :=
  ∃ locs, Stand p l e R s m args below meth c T locs cells slots ∧ T.heap = h ∧ Fr n0 locs ∧ n0 ≤ h.size ∧ cells ≤ R.cells ∧ slots ≤ R.slots ∧ p.tables.exec = Jvm.exec ∧ Z.Warmed39 s.vm ∧ c.code = bs ∧ c.maxLocals = mx ∧ s.vm.findClass own = some m.cls ∧ meth.name = nm ∧ meth.sig.returnType = ret ∧ meth.locks = false
def Ct (l : Launch) (Z : State) (y : MethodName) (bs : ByteArray) (mx : Nat) (ret : Option FieldType) (ws : List Jvm.Cond) (R : Room) (as' : Array Value) (h : Heap) (n0 : Nat) (Q : Option Value → Heap → Prop) : Prop :=
  MetFree l y (head1 (Cond.code y bs mx ret :: ws) R) (fun a U => a = as' ∧ Z.Warmed39 U.vm ∧ U.heap = h) (fun _ _ _ _ _ => True) (fun _ U o U' => ∃ v L, o = .returned v ∧ Qc n0 Q v U'.heap L ∧ FrameEnd U o U' L R.cells R.slots)
theorem Ct.of {l : Launch} {Z : State} {y : MethodName} {bs : ByteArray} {mx : Nat} {ret : Option FieldType} {ws : List Jvm.Cond} {R : Room} {as' : Array Value} {h : Heap} {n0 : Nat} {Q : Option Value → Heap → Prop} {Ls : Array Slot}
    (hp : plainFor y = true) (hn : n0 ≤ h.size) (he : ∀ m, entryFrame m as' mx = mkF m 0 Ls [])
    (body : ∀ p e s m below meth c T, Sn Z n0 bs mx y.cls y.name ret p l e R s m as' below meth c T h 0 0 → W p e below s R n0 Q (T.setTop (mkF m 0 Ls []))) : Ct l Z y bs mx ret ws R as' h n0 Q := by
  refine MetFree.of_bodySF hp hisR ?_
  intro p e s m args below meth c s₁ Bd hml0 hP hK
  obtain ⟨rfl, hZ, hh⟩ := hP
  have X0 : Stand p l e R s m args below meth c s₁ [] 0 0 := Stand.of_body Bd
  have e0 : s₁.heap = h := by rw [← hh, Bd.state]; rfl
  obtain ⟨s2, o, st, r⟩ := body p e s m below meth c s₁ ⟨[], X0, e0, Fr.nil n0, hn, Nat.zero_le _, Nat.zero_le _, Bd.exec, hZ, Bd.bytes, hml0, findClass_of_methodNamed Bd.named, (name_of_methodNamed Bd.named Bd.method).1, Bd.returns, Bd.notSynchronized⟩
  exact ⟨s2, o, castTop (he m) st, r⟩
/-! the shifts, by names -/
def lus (x : Int64) (y : Int32) : Int64 := (x.toUInt64 >>> (y &&& 0x3f).toInt64.toUInt64).toInt64
def lsl (x : Int64) (y : Int32) : Int64 := x <<< (y &&& 0x3f).toInt64
def lsr (x : Int64) (y : Int32) : Int64 := x >>> (y &&& 0x3f).toInt64
def ius (x : Int32) (y : Int32) : Int32 := (x.toUInt32 >>> (y &&& 31).toUInt32).toInt32
def isl (x : Int32) (y : Int32) : Int32 := x <<< (y &&& 31)
def isr (x : Int32) (y : Int32) : Int32 := x >>> (y &&& 31)
theorem sh_u : ∀ k : Nat, k < 64 → ((Int32.ofNat k &&& 0x3f).toInt64.toUInt64.toBitVec % 64).toNat = k := by decide +kernel
theorem sh_s : ∀ k : Nat, k < 64 → ((Int32.ofNat k &&& 0x3f).toInt64.toBitVec.smod 64).toNat = k := by decide +kernel
theorem sh_u32 : ∀ k : Nat, k < 32 → ((Int32.ofNat k &&& 31).toUInt32.toBitVec % 32).toNat = k := by decide +kernel
theorem sh_s32 : ∀ k : Nat, k < 32 → ((Int32.ofNat k &&& 31).toBitVec.smod 32).toNat = k := by decide +kernel
theorem lusB (x : Int64) {k : Nat} (hk : k < 64) : (lus x (Int32.ofNat k)).toBitVec = x.toBitVec >>> k := by
  show (x.toUInt64 >>> (Int32.ofNat k &&& 0x3f).toInt64.toUInt64).toBitVec = _
  rw [UInt64.toBitVec_shiftRight, BitVec.ushiftRight_eq', sh_u k hk]; rfl
theorem lslB (x : Int64) {k : Nat} (hk : k < 64) : (lsl x (Int32.ofNat k)).toBitVec = x.toBitVec <<< k := by
  unfold lsl
  rw [Int64.toBitVec_shiftLeft, BitVec.shiftLeft_eq', sh_s k hk]
theorem lsrB (x : Int64) {k : Nat} (hk : k < 64) : (lsr x (Int32.ofNat k)).toBitVec = x.toBitVec.sshiftRight k := by
  unfold lsr
  rw [Int64.toBitVec_shiftRight, BitVec.sshiftRight_eq', sh_s k hk]
theorem iusB (x : Int32) {k : Nat} (hk : k < 32) : (ius x (Int32.ofNat k)).toBitVec = x.toBitVec >>> k := by
  show (x.toUInt32 >>> (Int32.ofNat k &&& 31).toUInt32).toBitVec = _
  rw [UInt32.toBitVec_shiftRight, BitVec.ushiftRight_eq', sh_u32 k hk]; rfl
theorem isrB (x : Int32) {k : Nat} (hk : k < 32) : (isr x (Int32.ofNat k)).toBitVec = x.toBitVec.sshiftRight k := by
  unfold isr
  rw [Int32.toBitVec_shiftRight, BitVec.sshiftRight_eq', sh_s32 k hk]
/-- the long read without its sign -/
def un (x : Int64) : Nat := x.toBitVec.toNat
theorem un_inj {x y : Int64} (h : un x = un y) : x = y := Int64.toBitVec_inj.mp (BitVec.eq_of_toNat_eq h)
theorem un_lt (x : Int64) : un x < 2 ^ 64 := x.toBitVec.isLt
theorem un_of_nonneg {x : Int64} (h : 0 ≤ x.toInt) : (un x : Int) = x.toInt ∧ un x < 2 ^ 63 := by
  have e : x.toInt = if 2 * un x < 2 ^ 64 then (un x : Int) else (un x : Int) - ((2 ^ 64 : Nat) : Int) := BitVec.toInt_eq_toNat_cond _
  have l := un_lt x
  by_cases q : 2 * un x < 2 ^ 64
  · rw [if_pos q] at e; omega
  · rw [if_neg q] at e; omega
theorem un_lus (x : Int64) {k : Nat} (hk : k < 64) : un (lus x (Int32.ofNat k)) = un x / 2 ^ k := by
  unfold un; rw [lusB x hk, BitVec.toNat_ushiftRight, Nat.shiftRight_eq_div_pow]
theorem un_lsl (x : Int64) {k : Nat} (hk : k < 64) : un (lsl x (Int32.ofNat k)) = un x * 2 ^ k % 2 ^ 64 := by
  unfold un; rw [lslB x hk, BitVec.toNat_shiftLeft, Nat.shiftLeft_eq]
theorem un_or (x y : Int64) : un (x ||| y) = un x ||| un y := by
  unfold un; rw [Int64.toBitVec_or, BitVec.toNat_or]
theorem un_and (x y : Int64) : un (x &&& y) = un x &&& un y := by
  unfold un; rw [Int64.toBitVec_and, BitVec.toNat_and]
theorem un_mask (x m : Int64) {k : Nat} (hm : un m = 2 ^ k - 1) : un (x &&& m) = un x % 2 ^ k := by
  rw [un_and, hm, Nat.and_two_pow_sub_one_eq_mod]
theorem toInt_of_un {x : Int64} (h : un x < 2 ^ 63) : x.toInt = un x := by
  have e : x.toInt = x.toBitVec.toInt := rfl
  rw [e, BitVec.toInt_eq_toNat_cond]
  unfold un at *
  rw [if_pos (by omega)]
theorem lus_nonneg {x : Int64} (h : 0 ≤ x.toInt) {k : Nat} (hk : k < 64) : (lus x (Int32.ofNat k)).toInt = x.toInt / 2 ^ k := by
  have h1 := un_of_nonneg h
  have h2 := un_lus x hk
  have h3 : un x / 2 ^ k ≤ un x := Nat.div_le_self _ _
  rw [toInt_of_un (by omega), h2, ← h1.1]; simp
theorem byteN : ∀ b : BitVec 8, ((Int8.ofBitVec b).toInt32.toInt8.toInt32 &&& 255).toInt64.toBitVec.toNat = b.toNat := by decide +kernel
theorem byteU (v : Int64) : un ((v.toInt32.toInt8.toInt32.toInt8.toInt32 &&& 255).toInt64) = un v % 256 := by
  have e : (v.toInt32.toInt8).toBitVec.toNat = un v % 256 := by
    show ((v.toBitVec.signExtend 32).signExtend 8).toNat = _
    rw [BitVec.signExtend_eq_setWidth_of_le _ (by decide), BitVec.signExtend_eq_setWidth_of_le _ (by decide), BitVec.toNat_setWidth, BitVec.toNat_setWidth]
    unfold un; omega
  have h := byteN v.toInt32.toInt8.toBitVec
  rw [e] at h
  exact h
theorem catU {a c : Int64} {k : Nat} (hk : k < 64) (ha : un a * 2 ^ k < 2 ^ 64) (hc : un c < 2 ^ k) : un (lsl a (Int32.ofNat k) ||| c) = un a * 2 ^ k + un c := by
  rw [un_or, un_lsl a hk, Nat.mod_eq_of_lt ha, ← Nat.shiftLeft_eq, Nat.shiftLeft_add_eq_or_of_lt hc]
/-! an array: its kind, its length, what each place holds -/
def AF (Z : State) (h : Heap) (a : Addr) (ty : FieldType) (n : Nat) (f : Nat → Value) : Prop := ∃ c : Cell, Arr Z h a c ty ∧ c.slots.size = n ∧ n < 2 ^ 31 ∧ ∀ j, j < n → c.slots[j]? = some (f j)
def up (f : Nat → Value) (i : Nat) (v : Value) : Nat → Value := fun j => if j = i then v else f j
section
variable {Z : State} {h h' h0 : Heap} {a b : Addr} {ty : FieldType} {n i sl : Nat} {f g : Nat → Value} {v : Value} {ws : List Addr}
theorem AF.lt (F : AF Z h a ty n f) : a < h.size := by obtain ⟨c, A, -⟩ := F; exact A.lt
theorem AF.len (F : AF Z h a ty n f) : n < 2 ^ 31 := by obtain ⟨c, -, -, q, -⟩ := F; exact q
theorem AF.ext (F : AF Z h a ty n f) (E : Ext h h') : AF Z h' a ty n f := by obtain ⟨c, A, r⟩ := F; exact ⟨c, A.ext E, r⟩
theorem AF.other (F : AF Z h b ty n f) (W : Wr h h' a sl v) (q : b ≠ a) : AF Z h' b ty n f := by obtain ⟨c, A, r⟩ := F; exact ⟨c, A.other W q, r⟩
theorem AF.keep (F : AF Z h a ty n f) (K : Keep h h' ws) (q : a ∉ ws) : AF Z h' a ty n f := by obtain ⟨c, A, r⟩ := F; exact ⟨c, ⟨K.2.1 a c A.1 q, A.2⟩, r⟩
theorem AF.congr (F : AF Z h a ty n f) (q : ∀ j, j < n → f j = g j) : AF Z h a ty n g := by obtain ⟨c, A, r1, r2, r3⟩ := F; exact ⟨c, A, r1, r2, fun j hj => by rw [← q j hj]; exact r3 j hj⟩
theorem AF.set (F : AF Z h a ty n f) (W : Wr h h' a i v) : AF Z h' a ty n (up f i v) := by
  obtain ⟨c, A, r1, r2, r3⟩ := F
  refine ⟨_, A.same W, by rw [sz_set]; exact r1, r2, fun j hj => ?_⟩
  by_cases u : j = i
  · subst u; simp [Cell.setSlot, up, r1, hj]
  · simp only [Cell.setSlot, up, u, if_false]; rw [Array.getElem?_setIfInBounds_ne (Ne.symm u)]; exact r3 j hj
theorem AF.new {k : ClassId} {z : Int32} (A : Arr Z h a (newA k ty z) ty) (q : z.toInt = n) : AF Z h a ty n (fun _ => defaultValue ty) := by
  have := Int32.toInt_lt z
  refine ⟨_, A, by rw [sz_new]; simp only [Int32.toNatClampNeg]; omega, by omega, fun j hj => ?_⟩
  have : j < z.toNatClampNeg := by simp only [Int32.toNatClampNeg]; omega
  simp [newA, this]
theorem up_eq {j : Nat} (q : j = i) : up f i v j = v := if_pos q
theorem up_ne {j : Nat} (q : j ≠ i) : up f i v j = f j := if_neg q
theorem ne_size (q : b = h.size) (r : a < h.size) : a ≠ b := by subst q; exact Nat.ne_of_lt r
theorem Keep.app (K : Keep h0 h ws) (K' : Keep h h' ws) : Keep h0 h' ws := K.trans K' fun x hx => Or.inl hx
end
section
variable {p : Program} {l : Launch} {e : Env} {R : Room} {s : State} {m : MethodId} {args : Array Value} {below : List Frame} {meth : Method} {c : Code} {Z : State} {a0 : Array Value} {n0 : Nat} {bs : ByteArray} {mx : Nat} {own nm : String} {ret : Option FieldType} {T : State} {h : Heap} {cells slots : Nat} {Q : Option Value → Heap → Prop} {pc pc' pc1 pc2 k : Nat} {Ls L' : Array Slot} {st : List Value} {o : Int}
theorem W.of {S0 S1 : State} (q : ∀ t, Steps p.tables e below S1 t → Steps p.tables e below S0 t) (w : W p e below s R n0 Q S1) : W p e below s R n0 Q S0 := by
  obtain ⟨s2, o, st, r⟩ := w; exact ⟨s2, o, q _ st, r⟩
theorem W.fwd {S0 S1 : State} (q : Steps p.tables e below S0 S1) (w : W p e below s R n0 Q S1) : W p e below s R n0 Q S0 := W.of (fun _ k => q.trans k) w
theorem w_topI {x x' : Int32} (q : x = x') (w : W p e below s R n0 Q (T.setTop (mkF m pc Ls (.int x' :: st)))) : W p e below s R n0 Q (T.setTop (mkF m pc Ls (.int x :: st))) := by rw [q]; exact w
theorem w_topJ {x x' : Int64} (q : x = x') (w : W p e below s R n0 Q (T.setTop (mkF m pc Ls (.long x' :: st)))) : W p e below s R n0 Q (T.setTop (mkF m pc Ls (.long x :: st))) := by rw [q]; exact w
theorem Sn.size (X : Sn Z n0 bs mx own nm ret p l e R s m args below meth c T h cells slots) : n0 ≤ h.size := by obtain ⟨_, _, _, _, q, _⟩ := X; exact q
theorem Sn.more (X : Sn Z n0 bs mx own nm ret p l e R s m args below meth c T h cells slots) {cells' slots' : Nat} (q : cells ≤ cells' ∧ slots ≤ slots' ∧ cells' ≤ R.cells ∧ slots' ≤ R.slots) : Sn Z n0 bs mx own nm ret p l e R s m args below meth c T h cells' slots' := by
  obtain ⟨locs, X, r1, r2, r3, -, -, r⟩ := X; exact ⟨locs, X.more q.1 q.2.1, r1, r2, r3, q.2.2.1, q.2.2.2, r⟩
theorem w_iload (X : Sn Z n0 bs mx own nm ret p l e R s m args below meth c T h cells slots) {v : Int32} (hd : decode bs pc = .ok (.iload k, 2)) (hl : Ls[k]? = some (.val (.int v))) (hp : pc + 2 = pc')
    (w : W p e below s R n0 Q (T.setTop (mkF m pc' Ls (.int v :: st)))) : W p e below s R n0 Q (T.setTop (mkF m pc Ls (st))) := by
  obtain ⟨locs, X, eT, N, hs0, hcl, hsl, hx, hZ, rfl, hml, hown, hnm, hret, hlk⟩ := X
  subst hp
  exact W.of (fun t k => XS.iload X.here hx rfl hd hl k) w
theorem w_iloadN (X : Sn Z n0 bs mx own nm ret p l e R s m args below meth c T h cells slots) {v : Int32} {q : Fin 4} (hd : decode bs pc = .ok (.iload_n q, 1)) (hl : Ls[q.val]? = some (.val (.int v))) (hp : pc + 1 = pc')
    (w : W p e below s R n0 Q (T.setTop (mkF m pc' Ls (.int v :: st)))) : W p e below s R n0 Q (T.setTop (mkF m pc Ls (st))) := by
  obtain ⟨locs, X, eT, N, hs0, hcl, hsl, hx, hZ, rfl, hml, hown, hnm, hret, hlk⟩ := X
  subst hp
  exact W.of (fun t k => XS.iloadN X.here hx rfl hd hl k) w
theorem w_istore (X : Sn Z n0 bs mx own nm ret p l e R s m args below meth c T h cells slots) {v : Int32} (hd : decode bs pc = .ok (.istore k, 2)) (hl : storeLocals Ls k (.int v) = some L') (hp : pc + 2 = pc')
    (w : W p e below s R n0 Q (T.setTop (mkF m pc' L' (st)))) : W p e below s R n0 Q (T.setTop (mkF m pc Ls (.int v :: st))) := by
  obtain ⟨locs, X, eT, N, hs0, hcl, hsl, hx, hZ, rfl, hml, hown, hnm, hret, hlk⟩ := X
  subst hp
  exact W.of (fun t k => XS.istore X.here hx rfl hd rfl hl k) w
theorem w_istoreN (X : Sn Z n0 bs mx own nm ret p l e R s m args below meth c T h cells slots) {v : Int32} {q : Fin 4} (hd : decode bs pc = .ok (.istore_n q, 1)) (hl : storeLocals Ls q.val (.int v) = some L') (hp : pc + 1 = pc')
    (w : W p e below s R n0 Q (T.setTop (mkF m pc' L' (st)))) : W p e below s R n0 Q (T.setTop (mkF m pc Ls (.int v :: st))) := by
  obtain ⟨locs, X, eT, N, hs0, hcl, hsl, hx, hZ, rfl, hml, hown, hnm, hret, hlk⟩ := X
  subst hp
  exact W.of (fun t k => XS.istoreN X.here hx rfl hd rfl hl k) w
theorem w_lload (X : Sn Z n0 bs mx own nm ret p l e R s m args below meth c T h cells slots) {v : Int64} (hd : decode bs pc = .ok (.lload k, 2)) (hl : Ls[k]? = some (.val (.long v))) (hp : pc + 2 = pc')
    (w : W p e below s R n0 Q (T.setTop (mkF m pc' Ls (.long v :: st)))) : W p e below s R n0 Q (T.setTop (mkF m pc Ls (st))) := by
  obtain ⟨locs, X, eT, N, hs0, hcl, hsl, hx, hZ, rfl, hml, hown, hnm, hret, hlk⟩ := X
  subst hp
  exact W.of (fun t k => XS.lload X.here hx rfl hd hl k) w
theorem w_lloadN (X : Sn Z n0 bs mx own nm ret p l e R s m args below meth c T h cells slots) {v : Int64} {q : Fin 4} (hd : decode bs pc = .ok (.lload_n q, 1)) (hl : Ls[q.val]? = some (.val (.long v))) (hp : pc + 1 = pc')
    (w : W p e below s R n0 Q (T.setTop (mkF m pc' Ls (.long v :: st)))) : W p e below s R n0 Q (T.setTop (mkF m pc Ls (st))) := by
  obtain ⟨locs, X, eT, N, hs0, hcl, hsl, hx, hZ, rfl, hml, hown, hnm, hret, hlk⟩ := X
  subst hp
  exact W.of (fun t k => XS.lloadN X.here hx rfl hd hl k) w
theorem w_lstore (X : Sn Z n0 bs mx own nm ret p l e R s m args below meth c T h cells slots) {v : Int64} (hd : decode bs pc = .ok (.lstore k, 2)) (hl : storeLocals Ls k (.long v) = some L') (hp : pc + 2 = pc')
    (w : W p e below s R n0 Q (T.setTop (mkF m pc' L' (st)))) : W p e below s R n0 Q (T.setTop (mkF m pc Ls (.long v :: st))) := by
  obtain ⟨locs, X, eT, N, hs0, hcl, hsl, hx, hZ, rfl, hml, hown, hnm, hret, hlk⟩ := X
  subst hp
  exact W.of (fun t k => XS.lstore X.here hx rfl hd rfl hl k) w
theorem w_lstoreN (X : Sn Z n0 bs mx own nm ret p l e R s m args below meth c T h cells slots) {v : Int64} {q : Fin 4} (hd : decode bs pc = .ok (.lstore_n q, 1)) (hl : storeLocals Ls q.val (.long v) = some L') (hp : pc + 1 = pc')
    (w : W p e below s R n0 Q (T.setTop (mkF m pc' L' (st)))) : W p e below s R n0 Q (T.setTop (mkF m pc Ls (.long v :: st))) := by
  obtain ⟨locs, X, eT, N, hs0, hcl, hsl, hx, hZ, rfl, hml, hown, hnm, hret, hlk⟩ := X
  subst hp
  exact W.of (fun t k => XS.lstoreN X.here hx rfl hd rfl hl k) w
theorem w_aload (X : Sn Z n0 bs mx own nm ret p l e R s m args below meth c T h cells slots) {v : Value} (hd : decode bs pc = .ok (.aload k, 2)) (hl : Ls[k]? = some (.val v)) (hv : v.isRef = true) (hp : pc + 2 = pc')
    (w : W p e below s R n0 Q (T.setTop (mkF m pc' Ls (v :: st)))) : W p e below s R n0 Q (T.setTop (mkF m pc Ls (st))) := by
  obtain ⟨locs, X, eT, N, hs0, hcl, hsl, hx, hZ, rfl, hml, hown, hnm, hret, hlk⟩ := X
  subst hp
  exact W.of (fun t k => XS.aload X.here hx rfl hd hl hv k) w
theorem w_aloadN (X : Sn Z n0 bs mx own nm ret p l e R s m args below meth c T h cells slots) {v : Value} {q : Fin 4} (hd : decode bs pc = .ok (.aload_n q, 1)) (hl : Ls[q.val]? = some (.val v)) (hv : v.isRef = true) (hp : pc + 1 = pc')
    (w : W p e below s R n0 Q (T.setTop (mkF m pc' Ls (v :: st)))) : W p e below s R n0 Q (T.setTop (mkF m pc Ls (st))) := by
  obtain ⟨locs, X, eT, N, hs0, hcl, hsl, hx, hZ, rfl, hml, hown, hnm, hret, hlk⟩ := X
  subst hp
  exact W.of (fun t k => XS.aloadN X.here hx rfl hd hl hv k) w
theorem w_astore (X : Sn Z n0 bs mx own nm ret p l e R s m args below meth c T h cells slots) {v : Value} (hd : decode bs pc = .ok (.astore k, 2)) (hv : v.isRef = true) (hl : storeLocals Ls k v = some L') (hp : pc + 2 = pc')
    (w : W p e below s R n0 Q (T.setTop (mkF m pc' L' (st)))) : W p e below s R n0 Q (T.setTop (mkF m pc Ls (v :: st))) := by
  obtain ⟨locs, X, eT, N, hs0, hcl, hsl, hx, hZ, rfl, hml, hown, hnm, hret, hlk⟩ := X
  subst hp
  exact W.of (fun t k => XS.astore X.here hx rfl hd rfl hv hl k) w
theorem w_astoreN (X : Sn Z n0 bs mx own nm ret p l e R s m args below meth c T h cells slots) {v : Value} {q : Fin 4} (hd : decode bs pc = .ok (.astore_n q, 1)) (hv : v.isRef = true) (hl : storeLocals Ls q.val v = some L') (hp : pc + 1 = pc')
    (w : W p e below s R n0 Q (T.setTop (mkF m pc' L' (st)))) : W p e below s R n0 Q (T.setTop (mkF m pc Ls (v :: st))) := by
  obtain ⟨locs, X, eT, N, hs0, hcl, hsl, hx, hZ, rfl, hml, hown, hnm, hret, hlk⟩ := X
  subst hp
  exact W.of (fun t k => XS.astoreN X.here hx rfl hd rfl hv hl k) w
theorem w_iconst (X : Sn Z n0 bs mx own nm ret p l e R s m args below meth c T h cells slots) {z : Int32} (hd : decode bs pc = .ok (.iconst o, 1)) (hz : Int32.ofInt o = z) (hp : pc + 1 = pc')
    (w : W p e below s R n0 Q (T.setTop (mkF m pc' Ls (.int z :: st)))) : W p e below s R n0 Q (T.setTop (mkF m pc Ls (st))) := by
  obtain ⟨locs, X, eT, N, hs0, hcl, hsl, hx, hZ, rfl, hml, hown, hnm, hret, hlk⟩ := X
  subst hp
  exact W.of (fun t k => by subst hz; exact XS.iconst X.here hx rfl hd k) w
theorem w_bipush (X : Sn Z n0 bs mx own nm ret p l e R s m args below meth c T h cells slots) {z : Int32} (hd : decode bs pc = .ok (.bipush o, 2)) (hz : (Int8.ofInt o).toInt32 = z) (hp : pc + 2 = pc')
    (w : W p e below s R n0 Q (T.setTop (mkF m pc' Ls (.int z :: st)))) : W p e below s R n0 Q (T.setTop (mkF m pc Ls (st))) := by
  obtain ⟨locs, X, eT, N, hs0, hcl, hsl, hx, hZ, rfl, hml, hown, hnm, hret, hlk⟩ := X
  subst hp
  exact W.of (fun t k => by subst hz; exact XS.bipush X.here hx rfl hd k) w
theorem w_sipush (X : Sn Z n0 bs mx own nm ret p l e R s m args below meth c T h cells slots) {z : Int32} (hd : decode bs pc = .ok (.sipush o, 3)) (hz : (Int16.ofInt o).toInt32 = z) (hp : pc + 3 = pc')
    (w : W p e below s R n0 Q (T.setTop (mkF m pc' Ls (.int z :: st)))) : W p e below s R n0 Q (T.setTop (mkF m pc Ls (st))) := by
  obtain ⟨locs, X, eT, N, hs0, hcl, hsl, hx, hZ, rfl, hml, hown, hnm, hret, hlk⟩ := X
  subst hp
  exact W.of (fun t k => by subst hz; exact XS.sipush X.here hx rfl hd k) w
theorem w_lconst (X : Sn Z n0 bs mx own nm ret p l e R s m args below meth c T h cells slots) {z : Int64} {q : Fin 2} (hd : decode bs pc = .ok (.lconst q, 1)) (hz : Int64.ofNat q = z) (hp : pc + 1 = pc')
    (w : W p e below s R n0 Q (T.setTop (mkF m pc' Ls (.long z :: st)))) : W p e below s R n0 Q (T.setTop (mkF m pc Ls (st))) := by
  obtain ⟨locs, X, eT, N, hs0, hcl, hsl, hx, hZ, rfl, hml, hown, hnm, hret, hlk⟩ := X
  subst hp
  exact W.of (fun t k => by subst hz; exact XS.lconst X.here hx rfl hd k) w
theorem w_aconst_null (X : Sn Z n0 bs mx own nm ret p l e R s m args below meth c T h cells slots) (hd : decode bs pc = .ok (.aconst_null, 1)) (hp : pc + 1 = pc')
    (w : W p e below s R n0 Q (T.setTop (mkF m pc' Ls (.null :: st)))) : W p e below s R n0 Q (T.setTop (mkF m pc Ls (st))) := by
  obtain ⟨locs, X, eT, N, hs0, hcl, hsl, hx, hZ, rfl, hml, hown, hnm, hret, hlk⟩ := X
  subst hp
  exact W.of (fun t k => XS.aconstNull X.here hx rfl hd k) w
theorem w_ldc (X : Sn Z n0 bs mx own nm ret p l e R s m args below meth c T h cells slots) {z : Int32} {q : Nat} (hd : decode bs pc = .ok (.ldc q, 2)) (hw : (Cond.constant own q z).before a0 Z = true) (hp : pc + 2 = pc')
    (w : W p e below s R n0 Q (T.setTop (mkF m pc' Ls (.int z :: st)))) : W p e below s R n0 Q (T.setTop (mkF m pc Ls (st))) := by
  obtain ⟨locs, X, eT, N, hs0, hcl, hsl, hx, hZ, rfl, hml, hown, hnm, hret, hlk⟩ := X
  subst hp
  exact W.of (fun t k => X.ldcInt (own := own) (v := z) hx hown (mvT (args := args) (s := s) hZ hw rfl) (g := mkF m pc Ls st) rfl hd _ k) w
theorem w_ldc2 (X : Sn Z n0 bs mx own nm ret p l e R s m args below meth c T h cells slots) {z : Int64} {q : Nat} (hd : decode bs pc = .ok (.ldc2_w q, 3)) (hw : (Cond.constantLong own q z).before a0 Z = true) (hp : pc + 3 = pc')
    (w : W p e below s R n0 Q (T.setTop (mkF m pc' Ls (.long z :: st)))) : W p e below s R n0 Q (T.setTop (mkF m pc Ls (st))) := by
  obtain ⟨locs, X, eT, N, hs0, hcl, hsl, hx, hZ, rfl, hml, hown, hnm, hret, hlk⟩ := X
  subst hp
  exact W.of (fun t k => X.ldc2Long (own := own) (v := z) hx hown (mvT (args := args) (s := s) hZ hw rfl) (g := mkF m pc Ls st) rfl hd _ k) w
theorem w_iadd (X : Sn Z n0 bs mx own nm ret p l e R s m args below meth c T h cells slots) {x y : Int32} (hd : decode bs pc = .ok (.iadd, 1)) (hp : pc + 1 = pc')
    (w : W p e below s R n0 Q (T.setTop (mkF m pc' Ls (.int (x + y) :: st)))) : W p e below s R n0 Q (T.setTop (mkF m pc Ls (.int y :: .int x :: st))) := by
  obtain ⟨locs, X, eT, N, hs0, hcl, hsl, hx, hZ, rfl, hml, hown, hnm, hret, hlk⟩ := X
  subst hp
  exact W.of (fun t k => XS.iadd X.here hx rfl hd rfl k) w
theorem w_ladd (X : Sn Z n0 bs mx own nm ret p l e R s m args below meth c T h cells slots) {x y : Int64} (hd : decode bs pc = .ok (.ladd, 1)) (hp : pc + 1 = pc')
    (w : W p e below s R n0 Q (T.setTop (mkF m pc' Ls (.long (x + y) :: st)))) : W p e below s R n0 Q (T.setTop (mkF m pc Ls (.long y :: .long x :: st))) := by
  obtain ⟨locs, X, eT, N, hs0, hcl, hsl, hx, hZ, rfl, hml, hown, hnm, hret, hlk⟩ := X
  subst hp
  exact W.of (fun t k => XS.ladd X.here hx rfl hd rfl k) w
theorem w_isub (X : Sn Z n0 bs mx own nm ret p l e R s m args below meth c T h cells slots) {x y : Int32} (hd : decode bs pc = .ok (.isub, 1)) (hp : pc + 1 = pc')
    (w : W p e below s R n0 Q (T.setTop (mkF m pc' Ls (.int (x - y) :: st)))) : W p e below s R n0 Q (T.setTop (mkF m pc Ls (.int y :: .int x :: st))) := by
  obtain ⟨locs, X, eT, N, hs0, hcl, hsl, hx, hZ, rfl, hml, hown, hnm, hret, hlk⟩ := X
  subst hp
  exact W.of (fun t k => XS.isub X.here hx rfl hd rfl k) w
theorem w_lsub (X : Sn Z n0 bs mx own nm ret p l e R s m args below meth c T h cells slots) {x y : Int64} (hd : decode bs pc = .ok (.lsub, 1)) (hp : pc + 1 = pc')
    (w : W p e below s R n0 Q (T.setTop (mkF m pc' Ls (.long (x - y) :: st)))) : W p e below s R n0 Q (T.setTop (mkF m pc Ls (.long y :: .long x :: st))) := by
  obtain ⟨locs, X, eT, N, hs0, hcl, hsl, hx, hZ, rfl, hml, hown, hnm, hret, hlk⟩ := X
  subst hp
  exact W.of (fun t k => XS.lsub X.here hx rfl hd rfl k) w
theorem w_imul (X : Sn Z n0 bs mx own nm ret p l e R s m args below meth c T h cells slots) {x y : Int32} (hd : decode bs pc = .ok (.imul, 1)) (hp : pc + 1 = pc')
    (w : W p e below s R n0 Q (T.setTop (mkF m pc' Ls (.int (x * y) :: st)))) : W p e below s R n0 Q (T.setTop (mkF m pc Ls (.int y :: .int x :: st))) := by
  obtain ⟨locs, X, eT, N, hs0, hcl, hsl, hx, hZ, rfl, hml, hown, hnm, hret, hlk⟩ := X
  subst hp
  exact W.of (fun t k => XS.imul X.here hx rfl hd rfl k) w
theorem w_lmul (X : Sn Z n0 bs mx own nm ret p l e R s m args below meth c T h cells slots) {x y : Int64} (hd : decode bs pc = .ok (.lmul, 1)) (hp : pc + 1 = pc')
    (w : W p e below s R n0 Q (T.setTop (mkF m pc' Ls (.long (x * y) :: st)))) : W p e below s R n0 Q (T.setTop (mkF m pc Ls (.long y :: .long x :: st))) := by
  obtain ⟨locs, X, eT, N, hs0, hcl, hsl, hx, hZ, rfl, hml, hown, hnm, hret, hlk⟩ := X
  subst hp
  exact W.of (fun t k => XS.lmul X.here hx rfl hd rfl k) w
theorem w_iand (X : Sn Z n0 bs mx own nm ret p l e R s m args below meth c T h cells slots) {x y : Int32} (hd : decode bs pc = .ok (.iand, 1)) (hp : pc + 1 = pc')
    (w : W p e below s R n0 Q (T.setTop (mkF m pc' Ls (.int (x &&& y) :: st)))) : W p e below s R n0 Q (T.setTop (mkF m pc Ls (.int y :: .int x :: st))) := by
  obtain ⟨locs, X, eT, N, hs0, hcl, hsl, hx, hZ, rfl, hml, hown, hnm, hret, hlk⟩ := X
  subst hp
  exact W.of (fun t k => XS.iand X.here hx rfl hd rfl k) w
theorem w_land (X : Sn Z n0 bs mx own nm ret p l e R s m args below meth c T h cells slots) {x y : Int64} (hd : decode bs pc = .ok (.land, 1)) (hp : pc + 1 = pc')
    (w : W p e below s R n0 Q (T.setTop (mkF m pc' Ls (.long (x &&& y) :: st)))) : W p e below s R n0 Q (T.setTop (mkF m pc Ls (.long y :: .long x :: st))) := by
  obtain ⟨locs, X, eT, N, hs0, hcl, hsl, hx, hZ, rfl, hml, hown, hnm, hret, hlk⟩ := X
  subst hp
  exact W.of (fun t k => XS.land X.here hx rfl hd rfl k) w
theorem w_ior (X : Sn Z n0 bs mx own nm ret p l e R s m args below meth c T h cells slots) {x y : Int32} (hd : decode bs pc = .ok (.ior, 1)) (hp : pc + 1 = pc')
    (w : W p e below s R n0 Q (T.setTop (mkF m pc' Ls (.int (x ||| y) :: st)))) : W p e below s R n0 Q (T.setTop (mkF m pc Ls (.int y :: .int x :: st))) := by
  obtain ⟨locs, X, eT, N, hs0, hcl, hsl, hx, hZ, rfl, hml, hown, hnm, hret, hlk⟩ := X
  subst hp
  exact W.of (fun t k => XS.ior X.here hx rfl hd rfl k) w
theorem w_lor (X : Sn Z n0 bs mx own nm ret p l e R s m args below meth c T h cells slots) {x y : Int64} (hd : decode bs pc = .ok (.lor, 1)) (hp : pc + 1 = pc')
    (w : W p e below s R n0 Q (T.setTop (mkF m pc' Ls (.long (x ||| y) :: st)))) : W p e below s R n0 Q (T.setTop (mkF m pc Ls (.long y :: .long x :: st))) := by
  obtain ⟨locs, X, eT, N, hs0, hcl, hsl, hx, hZ, rfl, hml, hown, hnm, hret, hlk⟩ := X
  subst hp
  exact W.of (fun t k => XS.lor X.here hx rfl hd rfl k) w
theorem w_ixor (X : Sn Z n0 bs mx own nm ret p l e R s m args below meth c T h cells slots) {x y : Int32} (hd : decode bs pc = .ok (.ixor, 1)) (hp : pc + 1 = pc')
    (w : W p e below s R n0 Q (T.setTop (mkF m pc' Ls (.int (x ^^^ y) :: st)))) : W p e below s R n0 Q (T.setTop (mkF m pc Ls (.int y :: .int x :: st))) := by
  obtain ⟨locs, X, eT, N, hs0, hcl, hsl, hx, hZ, rfl, hml, hown, hnm, hret, hlk⟩ := X
  subst hp
  exact W.of (fun t k => XS.ixor X.here hx rfl hd rfl k) w
theorem w_lxor (X : Sn Z n0 bs mx own nm ret p l e R s m args below meth c T h cells slots) {x y : Int64} (hd : decode bs pc = .ok (.lxor, 1)) (hp : pc + 1 = pc')
    (w : W p e below s R n0 Q (T.setTop (mkF m pc' Ls (.long (x ^^^ y) :: st)))) : W p e below s R n0 Q (T.setTop (mkF m pc Ls (.long y :: .long x :: st))) := by
  obtain ⟨locs, X, eT, N, hs0, hcl, hsl, hx, hZ, rfl, hml, hown, hnm, hret, hlk⟩ := X
  subst hp
  exact W.of (fun t k => XS.lxor X.here hx rfl hd rfl k) w
theorem w_ishl (X : Sn Z n0 bs mx own nm ret p l e R s m args below meth c T h cells slots) {x y : Int32} (hd : decode bs pc = .ok (.ishl, 1)) (hp : pc + 1 = pc')
    (w : W p e below s R n0 Q (T.setTop (mkF m pc' Ls (.int (isl x y) :: st)))) : W p e below s R n0 Q (T.setTop (mkF m pc Ls (.int y :: .int x :: st))) := by
  obtain ⟨locs, X, eT, N, hs0, hcl, hsl, hx, hZ, rfl, hml, hown, hnm, hret, hlk⟩ := X
  subst hp
  exact W.of (fun t k => XS.ishl X.here hx rfl hd rfl k) w
theorem w_ishr (X : Sn Z n0 bs mx own nm ret p l e R s m args below meth c T h cells slots) {x y : Int32} (hd : decode bs pc = .ok (.ishr, 1)) (hp : pc + 1 = pc')
    (w : W p e below s R n0 Q (T.setTop (mkF m pc' Ls (.int (isr x y) :: st)))) : W p e below s R n0 Q (T.setTop (mkF m pc Ls (.int y :: .int x :: st))) := by
  obtain ⟨locs, X, eT, N, hs0, hcl, hsl, hx, hZ, rfl, hml, hown, hnm, hret, hlk⟩ := X
  subst hp
  exact W.of (fun t k => XS.ishr X.here hx rfl hd rfl k) w
theorem w_iushr (X : Sn Z n0 bs mx own nm ret p l e R s m args below meth c T h cells slots) {x y : Int32} (hd : decode bs pc = .ok (.iushr, 1)) (hp : pc + 1 = pc')
    (w : W p e below s R n0 Q (T.setTop (mkF m pc' Ls (.int (ius x y) :: st)))) : W p e below s R n0 Q (T.setTop (mkF m pc Ls (.int y :: .int x :: st))) := by
  obtain ⟨locs, X, eT, N, hs0, hcl, hsl, hx, hZ, rfl, hml, hown, hnm, hret, hlk⟩ := X
  subst hp
  exact W.of (fun t k => XS.iushr X.here hx rfl hd rfl k) w
theorem w_lshl (X : Sn Z n0 bs mx own nm ret p l e R s m args below meth c T h cells slots) {x : Int64} {y : Int32} (hd : decode bs pc = .ok (.lshl, 1)) (hp : pc + 1 = pc')
    (w : W p e below s R n0 Q (T.setTop (mkF m pc' Ls (.long (lsl x y) :: st)))) : W p e below s R n0 Q (T.setTop (mkF m pc Ls (.int y :: .long x :: st))) := by
  obtain ⟨locs, X, eT, N, hs0, hcl, hsl, hx, hZ, rfl, hml, hown, hnm, hret, hlk⟩ := X
  subst hp
  exact W.of (fun t k => XS.lshl X.here hx rfl hd rfl k) w
theorem w_lshr (X : Sn Z n0 bs mx own nm ret p l e R s m args below meth c T h cells slots) {x : Int64} {y : Int32} (hd : decode bs pc = .ok (.lshr, 1)) (hp : pc + 1 = pc')
    (w : W p e below s R n0 Q (T.setTop (mkF m pc' Ls (.long (lsr x y) :: st)))) : W p e below s R n0 Q (T.setTop (mkF m pc Ls (.int y :: .long x :: st))) := by
  obtain ⟨locs, X, eT, N, hs0, hcl, hsl, hx, hZ, rfl, hml, hown, hnm, hret, hlk⟩ := X
  subst hp
  exact W.of (fun t k => XS.lshr X.here hx rfl hd rfl k) w
theorem w_lushr (X : Sn Z n0 bs mx own nm ret p l e R s m args below meth c T h cells slots) {x : Int64} {y : Int32} (hd : decode bs pc = .ok (.lushr, 1)) (hp : pc + 1 = pc')
    (w : W p e below s R n0 Q (T.setTop (mkF m pc' Ls (.long (lus x y) :: st)))) : W p e below s R n0 Q (T.setTop (mkF m pc Ls (.int y :: .long x :: st))) := by
  obtain ⟨locs, X, eT, N, hs0, hcl, hsl, hx, hZ, rfl, hml, hown, hnm, hret, hlk⟩ := X
  subst hp
  exact W.of (fun t k => XS.lushr X.here hx rfl hd rfl k) w
theorem w_idiv (X : Sn Z n0 bs mx own nm ret p l e R s m args below meth c T h cells slots) {x y : Int32} (hd : decode bs pc = .ok (.idiv, 1)) (hy : y ≠ 0) (hp : pc + 1 = pc')
    (w : W p e below s R n0 Q (T.setTop (mkF m pc' Ls (.int (x / y) :: st)))) : W p e below s R n0 Q (T.setTop (mkF m pc Ls (.int y :: .int x :: st))) := by
  obtain ⟨locs, X, eT, N, hs0, hcl, hsl, hx, hZ, rfl, hml, hown, hnm, hret, hlk⟩ := X
  subst hp
  exact W.of (fun t k => XS.idiv X.here hx rfl hd rfl hy k) w
theorem w_irem (X : Sn Z n0 bs mx own nm ret p l e R s m args below meth c T h cells slots) {x y : Int32} (hd : decode bs pc = .ok (.irem, 1)) (hy : y ≠ 0) (hp : pc + 1 = pc')
    (w : W p e below s R n0 Q (T.setTop (mkF m pc' Ls (.int (x % y) :: st)))) : W p e below s R n0 Q (T.setTop (mkF m pc Ls (.int y :: .int x :: st))) := by
  obtain ⟨locs, X, eT, N, hs0, hcl, hsl, hx, hZ, rfl, hml, hown, hnm, hret, hlk⟩ := X
  subst hp
  exact W.of (fun t k => iremM X hx rfl hd rfl hy k) w
theorem w_ineg (X : Sn Z n0 bs mx own nm ret p l e R s m args below meth c T h cells slots) {x : Int32} (hd : decode bs pc = .ok (.ineg, 1)) (hp : pc + 1 = pc')
    (w : W p e below s R n0 Q (T.setTop (mkF m pc' Ls (.int (-x) :: st)))) : W p e below s R n0 Q (T.setTop (mkF m pc Ls (.int x :: st))) := by
  obtain ⟨locs, X, eT, N, hs0, hcl, hsl, hx, hZ, rfl, hml, hown, hnm, hret, hlk⟩ := X
  subst hp
  exact W.of (fun t k => XS.ineg X.here hx rfl hd rfl k) w
theorem w_lneg (X : Sn Z n0 bs mx own nm ret p l e R s m args below meth c T h cells slots) {x : Int64} (hd : decode bs pc = .ok (.lneg, 1)) (hp : pc + 1 = pc')
    (w : W p e below s R n0 Q (T.setTop (mkF m pc' Ls (.long (-x) :: st)))) : W p e below s R n0 Q (T.setTop (mkF m pc Ls (.long x :: st))) := by
  obtain ⟨locs, X, eT, N, hs0, hcl, hsl, hx, hZ, rfl, hml, hown, hnm, hret, hlk⟩ := X
  subst hp
  exact W.of (fun t k => XS.lneg X.here hx rfl hd rfl k) w
theorem w_i2l (X : Sn Z n0 bs mx own nm ret p l e R s m args below meth c T h cells slots) {x : Int32} (hd : decode bs pc = .ok (.i2l, 1)) (hp : pc + 1 = pc')
    (w : W p e below s R n0 Q (T.setTop (mkF m pc' Ls (.long x.toInt64 :: st)))) : W p e below s R n0 Q (T.setTop (mkF m pc Ls (.int x :: st))) := by
  obtain ⟨locs, X, eT, N, hs0, hcl, hsl, hx, hZ, rfl, hml, hown, hnm, hret, hlk⟩ := X
  subst hp
  exact W.of (fun t k => XS.i2l X.here hx rfl hd rfl k) w
theorem w_l2i (X : Sn Z n0 bs mx own nm ret p l e R s m args below meth c T h cells slots) {x : Int64} (hd : decode bs pc = .ok (.l2i, 1)) (hp : pc + 1 = pc')
    (w : W p e below s R n0 Q (T.setTop (mkF m pc' Ls (.int x.toInt32 :: st)))) : W p e below s R n0 Q (T.setTop (mkF m pc Ls (.long x :: st))) := by
  obtain ⟨locs, X, eT, N, hs0, hcl, hsl, hx, hZ, rfl, hml, hown, hnm, hret, hlk⟩ := X
  subst hp
  exact W.of (fun t k => XS.l2i X.here hx rfl hd rfl k) w
theorem w_i2b (X : Sn Z n0 bs mx own nm ret p l e R s m args below meth c T h cells slots) {x : Int32} (hd : decode bs pc = .ok (.i2b, 1)) (hp : pc + 1 = pc')
    (w : W p e below s R n0 Q (T.setTop (mkF m pc' Ls (.int x.toInt8.toInt32 :: st)))) : W p e below s R n0 Q (T.setTop (mkF m pc Ls (.int x :: st))) := by
  obtain ⟨locs, X, eT, N, hs0, hcl, hsl, hx, hZ, rfl, hml, hown, hnm, hret, hlk⟩ := X
  subst hp
  exact W.of (fun t k => XS.i2b X.here hx rfl hd rfl k) w
theorem w_i2s (X : Sn Z n0 bs mx own nm ret p l e R s m args below meth c T h cells slots) {x : Int32} (hd : decode bs pc = .ok (.i2s, 1)) (hp : pc + 1 = pc')
    (w : W p e below s R n0 Q (T.setTop (mkF m pc' Ls (.int x.toInt16.toInt32 :: st)))) : W p e below s R n0 Q (T.setTop (mkF m pc Ls (.int x :: st))) := by
  obtain ⟨locs, X, eT, N, hs0, hcl, hsl, hx, hZ, rfl, hml, hown, hnm, hret, hlk⟩ := X
  subst hp
  exact W.of (fun t k => XS.i2s X.here hx rfl hd rfl k) w
theorem w_dup (X : Sn Z n0 bs mx own nm ret p l e R s m args below meth c T h cells slots) {v : Value} (hd : decode bs pc = .ok (.dup, 1)) (hv : v.category = 1) (hp : pc + 1 = pc')
    (w : W p e below s R n0 Q (T.setTop (mkF m pc' Ls (v :: v :: st)))) : W p e below s R n0 Q (T.setTop (mkF m pc Ls (v :: st))) := by
  obtain ⟨locs, X, eT, N, hs0, hcl, hsl, hx, hZ, rfl, hml, hown, hnm, hret, hlk⟩ := X
  subst hp
  exact W.of (fun t k => XS.dup X.here hx rfl hd rfl hv k) w
theorem w_dup2 (X : Sn Z n0 bs mx own nm ret p l e R s m args below meth c T h cells slots) {v u : Value} (hd : decode bs pc = .ok (.dup2, 1)) (hv : v.category = 1) (hu : u.category = 1) (hp : pc + 1 = pc')
    (w : W p e below s R n0 Q (T.setTop (mkF m pc' Ls (v :: u :: v :: u :: st)))) : W p e below s R n0 Q (T.setTop (mkF m pc Ls (v :: u :: st))) := by
  obtain ⟨locs, X, eT, N, hs0, hcl, hsl, hx, hZ, rfl, hml, hown, hnm, hret, hlk⟩ := X
  subst hp
  exact W.of (fun t k => XT.dup2 X.here hx rfl hd rfl hv hu k) w
theorem w_pop (X : Sn Z n0 bs mx own nm ret p l e R s m args below meth c T h cells slots) {v : Value} (hd : decode bs pc = .ok (.pop, 1)) (hv : v.category = 1) (hp : pc + 1 = pc')
    (w : W p e below s R n0 Q (T.setTop (mkF m pc' Ls (st)))) : W p e below s R n0 Q (T.setTop (mkF m pc Ls (v :: st))) := by
  obtain ⟨locs, X, eT, N, hs0, hcl, hsl, hx, hZ, rfl, hml, hown, hnm, hret, hlk⟩ := X
  subst hp
  exact W.of (fun t k => XS.pop X.here hx rfl hd rfl hv k) w
theorem w_iinc (X : Sn Z n0 bs mx own nm ret p l e R s m args below meth c T h cells slots) {x z : Int32} (hd : decode bs pc = .ok (.iinc k o, 3)) (hl : Ls[k]? = some (.val (.int x))) (hz : x + Int32.ofInt o = z) (hl' : storeLocals Ls k (.int z) = some L') (hp : pc + 3 = pc')
    (w : W p e below s R n0 Q (T.setTop (mkF m pc' L' (st)))) : W p e below s R n0 Q (T.setTop (mkF m pc Ls (st))) := by
  obtain ⟨locs, X, eT, N, hs0, hcl, hsl, hx, hZ, rfl, hml, hown, hnm, hret, hlk⟩ := X
  subst hp hz
  exact W.of (fun t k => XS.iinc X.here hx rfl hd hl hl' k) w
theorem w_goto (X : Sn Z n0 bs mx own nm ret p l e R s m args below meth c T h cells slots) (hd : decode bs pc = .ok (.goto o, 3)) (hp : 0 ≤ (pc : Int) + o ∧ ((pc : Int) + o).toNat = pc')
    (w : W p e below s R n0 Q (T.setTop (mkF m pc' Ls (st)))) : W p e below s R n0 Q (T.setTop (mkF m pc Ls (st))) := by
  obtain ⟨locs, X, eT, N, hs0, hcl, hsl, hx, hZ, rfl, hml, hown, hnm, hret, hlk⟩ := X
  exact W.of (fun t k => XS.goto X.here hx rfl rfl hd hp.1 hp.2 k) w
theorem hI_eq {x y : Int32} : if_icmp.holds .eq x y = decide (x = y) := by by_cases q : x = y <;> simp [q, (teq · |>.1), (feq · |>.1)]
theorem hI_ne {x y : Int32} : if_icmp.holds .ne x y = decide (x ≠ y) := by by_cases q : x = y <;> simp [q, (teq · |>.2), (feq · |>.2)]
theorem hI_lt {x y : Int32} : if_icmp.holds .lt x y = decide (x.toInt < y.toInt) := by
  by_cases q : x < y
  · rw [(tlt q).1]; exact (decide_eq_true (Int32.lt_iff_toInt_lt.mp q)).symm
  · rw [(flt q).1]; exact (decide_eq_false fun z => q (Int32.lt_iff_toInt_lt.mpr z)).symm
theorem hI_ge {x y : Int32} : if_icmp.holds .ge x y = decide (x.toInt ≥ y.toInt) := by
  by_cases q : x < y
  · rw [(tlt q).2.1]; exact (decide_eq_false fun z => by have := Int32.lt_iff_toInt_lt.mp q; omega).symm
  · rw [(flt q).2.1]; exact (decide_eq_true (by rw [Int32.lt_iff_toInt_lt] at q; omega)).symm
theorem hI_gt {x y : Int32} : if_icmp.holds .gt x y = decide (x.toInt > y.toInt) := by
  by_cases q : y < x
  · rw [(tlt q).2.2.1]; exact (decide_eq_true (Int32.lt_iff_toInt_lt.mp q)).symm
  · rw [(flt q).2.2.1]; exact (decide_eq_false fun z => q (Int32.lt_iff_toInt_lt.mpr z)).symm
theorem hI_le {x y : Int32} : if_icmp.holds .le x y = decide (x.toInt ≤ y.toInt) := by
  by_cases q : y < x
  · rw [(tlt q).2.2.2]; exact (decide_eq_false fun z => by have := Int32.lt_iff_toInt_lt.mp q; omega).symm
  · rw [(flt q).2.2.2]; exact (decide_eq_true (by rw [Int32.lt_iff_toInt_lt] at q; omega)).symm
theorem w_icmp_eq (X : Sn Z n0 bs mx own nm ret p l e R s m args below meth c T h cells slots) {x y : Int32} (hd : decode bs pc = .ok (.if_icmp .eq o, 3)) (hp : 0 ≤ (pc : Int) + o ∧ ((pc : Int) + o).toNat = pc1 ∧ pc + 3 = pc2)
    (yes : x = y → W p e below s R n0 Q (T.setTop (mkF m pc1 Ls (st)))) (no : x ≠ y → W p e below s R n0 Q (T.setTop (mkF m pc2 Ls (st)))) : W p e below s R n0 Q (T.setTop (mkF m pc Ls (.int y :: .int x :: st))) := by
  obtain ⟨locs, X, eT, N, hs0, hcl, hsl, hx, hZ, rfl, hml, hown, hnm, hret, hlk⟩ := X
  by_cases z : x = y
  · exact W.of (fun t k => XS.icmpYes X.here hx rfl rfl hd rfl (hI_eq.trans (decide_eq_true z)) hp.1 hp.2.1 k) (yes z)
  · have w := no (z)
    rw [← hp.2.2] at w
    exact W.of (fun t k => XS.icmpNo X.here hx rfl hd rfl (hI_eq.trans (decide_eq_false z)) k) w
theorem w_if_eq (X : Sn Z n0 bs mx own nm ret p l e R s m args below meth c T h cells slots) {x : Int32} (hd : decode bs pc = .ok (.ifCond .eq o, 3)) (hp : 0 ≤ (pc : Int) + o ∧ ((pc : Int) + o).toNat = pc1 ∧ pc + 3 = pc2)
    (yes : x = 0 → W p e below s R n0 Q (T.setTop (mkF m pc1 Ls (st)))) (no : x ≠ 0 → W p e below s R n0 Q (T.setTop (mkF m pc2 Ls (st)))) : W p e below s R n0 Q (T.setTop (mkF m pc Ls (.int x :: st))) := by
  obtain ⟨locs, X, eT, N, hs0, hcl, hsl, hx, hZ, rfl, hml, hown, hnm, hret, hlk⟩ := X
  have hq : ifCond.holds .eq x = decide (x = 0) := (if0 _ _).trans hI_eq
  by_cases z : x = 0
  · exact W.of (fun t k => XS.ifYes X.here hx rfl rfl hd rfl (hq.trans (decide_eq_true z)) hp.1 hp.2.1 k) (yes z)
  · have w := no (z)
    rw [← hp.2.2] at w
    exact W.of (fun t k => XS.ifNo X.here hx rfl hd rfl (hq.trans (decide_eq_false z)) k) w
theorem w_icmp_ne (X : Sn Z n0 bs mx own nm ret p l e R s m args below meth c T h cells slots) {x y : Int32} (hd : decode bs pc = .ok (.if_icmp .ne o, 3)) (hp : 0 ≤ (pc : Int) + o ∧ ((pc : Int) + o).toNat = pc1 ∧ pc + 3 = pc2)
    (yes : x ≠ y → W p e below s R n0 Q (T.setTop (mkF m pc1 Ls (st)))) (no : x = y → W p e below s R n0 Q (T.setTop (mkF m pc2 Ls (st)))) : W p e below s R n0 Q (T.setTop (mkF m pc Ls (.int y :: .int x :: st))) := by
  obtain ⟨locs, X, eT, N, hs0, hcl, hsl, hx, hZ, rfl, hml, hown, hnm, hret, hlk⟩ := X
  by_cases z : x ≠ y
  · exact W.of (fun t k => XS.icmpYes X.here hx rfl rfl hd rfl (hI_ne.trans (decide_eq_true z)) hp.1 hp.2.1 k) (yes z)
  · have w := no (Classical.byContradiction fun u => z u)
    rw [← hp.2.2] at w
    exact W.of (fun t k => XS.icmpNo X.here hx rfl hd rfl (hI_ne.trans (decide_eq_false z)) k) w
theorem w_if_ne (X : Sn Z n0 bs mx own nm ret p l e R s m args below meth c T h cells slots) {x : Int32} (hd : decode bs pc = .ok (.ifCond .ne o, 3)) (hp : 0 ≤ (pc : Int) + o ∧ ((pc : Int) + o).toNat = pc1 ∧ pc + 3 = pc2)
    (yes : x ≠ 0 → W p e below s R n0 Q (T.setTop (mkF m pc1 Ls (st)))) (no : x = 0 → W p e below s R n0 Q (T.setTop (mkF m pc2 Ls (st)))) : W p e below s R n0 Q (T.setTop (mkF m pc Ls (.int x :: st))) := by
  obtain ⟨locs, X, eT, N, hs0, hcl, hsl, hx, hZ, rfl, hml, hown, hnm, hret, hlk⟩ := X
  have hq : ifCond.holds .ne x = decide (x ≠ 0) := (if0 _ _).trans hI_ne
  by_cases z : x ≠ 0
  · exact W.of (fun t k => XS.ifYes X.here hx rfl rfl hd rfl (hq.trans (decide_eq_true z)) hp.1 hp.2.1 k) (yes z)
  · have w := no (Classical.byContradiction fun u => z u)
    rw [← hp.2.2] at w
    exact W.of (fun t k => XS.ifNo X.here hx rfl hd rfl (hq.trans (decide_eq_false z)) k) w
theorem w_icmp_lt (X : Sn Z n0 bs mx own nm ret p l e R s m args below meth c T h cells slots) {x y : Int32} (hd : decode bs pc = .ok (.if_icmp .lt o, 3)) (hp : 0 ≤ (pc : Int) + o ∧ ((pc : Int) + o).toNat = pc1 ∧ pc + 3 = pc2)
    (yes : x.toInt < y.toInt → W p e below s R n0 Q (T.setTop (mkF m pc1 Ls (st)))) (no : x.toInt ≥ y.toInt → W p e below s R n0 Q (T.setTop (mkF m pc2 Ls (st)))) : W p e below s R n0 Q (T.setTop (mkF m pc Ls (.int y :: .int x :: st))) := by
  obtain ⟨locs, X, eT, N, hs0, hcl, hsl, hx, hZ, rfl, hml, hown, hnm, hret, hlk⟩ := X
  by_cases z : x.toInt < y.toInt
  · exact W.of (fun t k => XS.icmpYes X.here hx rfl rfl hd rfl (hI_lt.trans (decide_eq_true z)) hp.1 hp.2.1 k) (yes z)
  · have w := no (Int.not_lt.mp z)
    rw [← hp.2.2] at w
    exact W.of (fun t k => XS.icmpNo X.here hx rfl hd rfl (hI_lt.trans (decide_eq_false z)) k) w
theorem w_if_lt (X : Sn Z n0 bs mx own nm ret p l e R s m args below meth c T h cells slots) {x : Int32} (hd : decode bs pc = .ok (.ifCond .lt o, 3)) (hp : 0 ≤ (pc : Int) + o ∧ ((pc : Int) + o).toNat = pc1 ∧ pc + 3 = pc2)
    (yes : x.toInt < 0 → W p e below s R n0 Q (T.setTop (mkF m pc1 Ls (st)))) (no : x.toInt ≥ 0 → W p e below s R n0 Q (T.setTop (mkF m pc2 Ls (st)))) : W p e below s R n0 Q (T.setTop (mkF m pc Ls (.int x :: st))) := by
  obtain ⟨locs, X, eT, N, hs0, hcl, hsl, hx, hZ, rfl, hml, hown, hnm, hret, hlk⟩ := X
  have hq : ifCond.holds .lt x = decide (x.toInt < 0) := (if0 _ _).trans hI_lt
  by_cases z : x.toInt < 0
  · exact W.of (fun t k => XS.ifYes X.here hx rfl rfl hd rfl (hq.trans (decide_eq_true z)) hp.1 hp.2.1 k) (yes z)
  · have w := no (Int.not_lt.mp z)
    rw [← hp.2.2] at w
    exact W.of (fun t k => XS.ifNo X.here hx rfl hd rfl (hq.trans (decide_eq_false z)) k) w
theorem w_icmp_ge (X : Sn Z n0 bs mx own nm ret p l e R s m args below meth c T h cells slots) {x y : Int32} (hd : decode bs pc = .ok (.if_icmp .ge o, 3)) (hp : 0 ≤ (pc : Int) + o ∧ ((pc : Int) + o).toNat = pc1 ∧ pc + 3 = pc2)
    (yes : x.toInt ≥ y.toInt → W p e below s R n0 Q (T.setTop (mkF m pc1 Ls (st)))) (no : x.toInt < y.toInt → W p e below s R n0 Q (T.setTop (mkF m pc2 Ls (st)))) : W p e below s R n0 Q (T.setTop (mkF m pc Ls (.int y :: .int x :: st))) := by
  obtain ⟨locs, X, eT, N, hs0, hcl, hsl, hx, hZ, rfl, hml, hown, hnm, hret, hlk⟩ := X
  by_cases z : x.toInt ≥ y.toInt
  · exact W.of (fun t k => XS.icmpYes X.here hx rfl rfl hd rfl (hI_ge.trans (decide_eq_true z)) hp.1 hp.2.1 k) (yes z)
  · have w := no (Int.not_le.mp z)
    rw [← hp.2.2] at w
    exact W.of (fun t k => XS.icmpNo X.here hx rfl hd rfl (hI_ge.trans (decide_eq_false z)) k) w
theorem w_if_ge (X : Sn Z n0 bs mx own nm ret p l e R s m args below meth c T h cells slots) {x : Int32} (hd : decode bs pc = .ok (.ifCond .ge o, 3)) (hp : 0 ≤ (pc : Int) + o ∧ ((pc : Int) + o).toNat = pc1 ∧ pc + 3 = pc2)
    (yes : x.toInt ≥ 0 → W p e below s R n0 Q (T.setTop (mkF m pc1 Ls (st)))) (no : x.toInt < 0 → W p e below s R n0 Q (T.setTop (mkF m pc2 Ls (st)))) : W p e below s R n0 Q (T.setTop (mkF m pc Ls (.int x :: st))) := by
  obtain ⟨locs, X, eT, N, hs0, hcl, hsl, hx, hZ, rfl, hml, hown, hnm, hret, hlk⟩ := X
  have hq : ifCond.holds .ge x = decide (x.toInt ≥ 0) := (if0 _ _).trans hI_ge
  by_cases z : x.toInt ≥ 0
  · exact W.of (fun t k => XS.ifYes X.here hx rfl rfl hd rfl (hq.trans (decide_eq_true z)) hp.1 hp.2.1 k) (yes z)
  · have w := no (Int.not_le.mp z)
    rw [← hp.2.2] at w
    exact W.of (fun t k => XS.ifNo X.here hx rfl hd rfl (hq.trans (decide_eq_false z)) k) w
theorem w_icmp_gt (X : Sn Z n0 bs mx own nm ret p l e R s m args below meth c T h cells slots) {x y : Int32} (hd : decode bs pc = .ok (.if_icmp .gt o, 3)) (hp : 0 ≤ (pc : Int) + o ∧ ((pc : Int) + o).toNat = pc1 ∧ pc + 3 = pc2)
    (yes : x.toInt > y.toInt → W p e below s R n0 Q (T.setTop (mkF m pc1 Ls (st)))) (no : x.toInt ≤ y.toInt → W p e below s R n0 Q (T.setTop (mkF m pc2 Ls (st)))) : W p e below s R n0 Q (T.setTop (mkF m pc Ls (.int y :: .int x :: st))) := by
  obtain ⟨locs, X, eT, N, hs0, hcl, hsl, hx, hZ, rfl, hml, hown, hnm, hret, hlk⟩ := X
  by_cases z : x.toInt > y.toInt
  · exact W.of (fun t k => XS.icmpYes X.here hx rfl rfl hd rfl (hI_gt.trans (decide_eq_true z)) hp.1 hp.2.1 k) (yes z)
  · have w := no (Int.not_lt.mp z)
    rw [← hp.2.2] at w
    exact W.of (fun t k => XS.icmpNo X.here hx rfl hd rfl (hI_gt.trans (decide_eq_false z)) k) w
theorem w_if_gt (X : Sn Z n0 bs mx own nm ret p l e R s m args below meth c T h cells slots) {x : Int32} (hd : decode bs pc = .ok (.ifCond .gt o, 3)) (hp : 0 ≤ (pc : Int) + o ∧ ((pc : Int) + o).toNat = pc1 ∧ pc + 3 = pc2)
    (yes : x.toInt > 0 → W p e below s R n0 Q (T.setTop (mkF m pc1 Ls (st)))) (no : x.toInt ≤ 0 → W p e below s R n0 Q (T.setTop (mkF m pc2 Ls (st)))) : W p e below s R n0 Q (T.setTop (mkF m pc Ls (.int x :: st))) := by
  obtain ⟨locs, X, eT, N, hs0, hcl, hsl, hx, hZ, rfl, hml, hown, hnm, hret, hlk⟩ := X
  have hq : ifCond.holds .gt x = decide (x.toInt > 0) := (if0 _ _).trans hI_gt
  by_cases z : x.toInt > 0
  · exact W.of (fun t k => XS.ifYes X.here hx rfl rfl hd rfl (hq.trans (decide_eq_true z)) hp.1 hp.2.1 k) (yes z)
  · have w := no (Int.not_lt.mp z)
    rw [← hp.2.2] at w
    exact W.of (fun t k => XS.ifNo X.here hx rfl hd rfl (hq.trans (decide_eq_false z)) k) w
theorem w_icmp_le (X : Sn Z n0 bs mx own nm ret p l e R s m args below meth c T h cells slots) {x y : Int32} (hd : decode bs pc = .ok (.if_icmp .le o, 3)) (hp : 0 ≤ (pc : Int) + o ∧ ((pc : Int) + o).toNat = pc1 ∧ pc + 3 = pc2)
    (yes : x.toInt ≤ y.toInt → W p e below s R n0 Q (T.setTop (mkF m pc1 Ls (st)))) (no : x.toInt > y.toInt → W p e below s R n0 Q (T.setTop (mkF m pc2 Ls (st)))) : W p e below s R n0 Q (T.setTop (mkF m pc Ls (.int y :: .int x :: st))) := by
  obtain ⟨locs, X, eT, N, hs0, hcl, hsl, hx, hZ, rfl, hml, hown, hnm, hret, hlk⟩ := X
  by_cases z : x.toInt ≤ y.toInt
  · exact W.of (fun t k => XS.icmpYes X.here hx rfl rfl hd rfl (hI_le.trans (decide_eq_true z)) hp.1 hp.2.1 k) (yes z)
  · have w := no (Int.not_le.mp z)
    rw [← hp.2.2] at w
    exact W.of (fun t k => XS.icmpNo X.here hx rfl hd rfl (hI_le.trans (decide_eq_false z)) k) w
theorem w_if_le (X : Sn Z n0 bs mx own nm ret p l e R s m args below meth c T h cells slots) {x : Int32} (hd : decode bs pc = .ok (.ifCond .le o, 3)) (hp : 0 ≤ (pc : Int) + o ∧ ((pc : Int) + o).toNat = pc1 ∧ pc + 3 = pc2)
    (yes : x.toInt ≤ 0 → W p e below s R n0 Q (T.setTop (mkF m pc1 Ls (st)))) (no : x.toInt > 0 → W p e below s R n0 Q (T.setTop (mkF m pc2 Ls (st)))) : W p e below s R n0 Q (T.setTop (mkF m pc Ls (.int x :: st))) := by
  obtain ⟨locs, X, eT, N, hs0, hcl, hsl, hx, hZ, rfl, hml, hown, hnm, hret, hlk⟩ := X
  have hq : ifCond.holds .le x = decide (x.toInt ≤ 0) := (if0 _ _).trans hI_le
  by_cases z : x.toInt ≤ 0
  · exact W.of (fun t k => XS.ifYes X.here hx rfl rfl hd rfl (hq.trans (decide_eq_true z)) hp.1 hp.2.1 k) (yes z)
  · have w := no (Int.not_le.mp z)
    rw [← hp.2.2] at w
    exact W.of (fun t k => XS.ifNo X.here hx rfl hd rfl (hq.trans (decide_eq_false z)) k) w
theorem hL {x y : Int64} : (if x > y then (1 : Int32) else if x = y then 0 else -1).toInt = if x.toInt > y.toInt then 1 else if x = y then 0 else -1 := by
  by_cases q : x > y
  · have q' : x.toInt > y.toInt := Int64.lt_iff_toInt_lt.mp q
    rw [if_pos q, if_pos q']; rfl
  · have q' : ¬ x.toInt > y.toInt := fun z => q (Int64.lt_iff_toInt_lt.mpr z)
    rw [if_neg q, if_neg q']
    by_cases r : x = y
    · rw [if_pos r, if_pos r]; rfl
    · rw [if_neg r, if_neg r]; rfl
theorem hL2 {x y : Int64} : ((if x > y then (1 : Int32) else if x = y then 0 else -1).toInt = 1 ∧ x.toInt > y.toInt) ∨ ((if x > y then (1 : Int32) else if x = y then 0 else -1) = 0 ∧ x = y ∧ x.toInt = y.toInt) ∨ ((if x > y then (1 : Int32) else if x = y then 0 else -1).toInt = -1 ∧ x.toInt < y.toInt) := by
  by_cases q : x.toInt > y.toInt
  · left; rw [hL, if_pos q]; exact ⟨rfl, q⟩
  · by_cases r : x = y
    · right; left; subst r; exact ⟨by rw [if_neg (fun z => q (Int64.lt_iff_toInt_lt.mp z)), if_pos rfl], rfl, rfl⟩
    · right; right; rw [hL, if_neg q, if_neg r]; refine ⟨rfl, ?_⟩
      have : x.toInt ≠ y.toInt := fun z => r (Int64.toInt_inj.mp z)
      omega
theorem w_lcif_eq (X : Sn Z n0 bs mx own nm ret p l e R s m args below meth c T h cells slots) {x y : Int64} (hd : decode bs pc = .ok (.lcmp, 1)) (hd2 : decode bs pc' = .ok (.ifCond .eq o, 3)) (hp : pc + 1 = pc' ∧ 0 ≤ (pc' : Int) + o ∧ ((pc' : Int) + o).toNat = pc1 ∧ pc' + 3 = pc2)
    (yes : x = y → W p e below s R n0 Q (T.setTop (mkF m pc1 Ls (st)))) (no : x ≠ y → W p e below s R n0 Q (T.setTop (mkF m pc2 Ls (st)))) : W p e below s R n0 Q (T.setTop (mkF m pc Ls (.long y :: .long x :: st))) := by
  have X' := X
  obtain ⟨locs, X, eT, N, hs0, hcl, hsl, hx, hZ, rfl, hml, hown, hnm, hret, hlk⟩ := X
  refine W.of (fun t k => XS.lcmp X.here hx rfl hd rfl k) ?_
  have e1 : pc + 1 = pc' := hp.1
  show W p e below s R n0 Q (T.setTop (mkF m (pc + 1) Ls (.int (if x > y then 1 else if x = y then 0 else -1) :: st)))
  rw [e1]
  refine w_if_eq X' hd2 hp.2 (fun z => yes ?_) (fun z => no ?_)
  all_goals rcases hL2 (x := x) (y := y) with ⟨q1, q2⟩ | ⟨q1, rfl, -⟩ | ⟨q1, q2⟩
  all_goals first | rfl | exact Int.le_refl _ | (exfalso; rw [z] at q1; revert q1; decide) | (exfalso; exact z q1) | (exfalso; rw [q1] at z; revert z; decide) | (intro u; subst u; exact absurd q2 (Int.lt_irrefl _)) | omega
theorem w_lcif_ne (X : Sn Z n0 bs mx own nm ret p l e R s m args below meth c T h cells slots) {x y : Int64} (hd : decode bs pc = .ok (.lcmp, 1)) (hd2 : decode bs pc' = .ok (.ifCond .ne o, 3)) (hp : pc + 1 = pc' ∧ 0 ≤ (pc' : Int) + o ∧ ((pc' : Int) + o).toNat = pc1 ∧ pc' + 3 = pc2)
    (yes : x ≠ y → W p e below s R n0 Q (T.setTop (mkF m pc1 Ls (st)))) (no : x = y → W p e below s R n0 Q (T.setTop (mkF m pc2 Ls (st)))) : W p e below s R n0 Q (T.setTop (mkF m pc Ls (.long y :: .long x :: st))) := by
  have X' := X
  obtain ⟨locs, X, eT, N, hs0, hcl, hsl, hx, hZ, rfl, hml, hown, hnm, hret, hlk⟩ := X
  refine W.of (fun t k => XS.lcmp X.here hx rfl hd rfl k) ?_
  have e1 : pc + 1 = pc' := hp.1
  show W p e below s R n0 Q (T.setTop (mkF m (pc + 1) Ls (.int (if x > y then 1 else if x = y then 0 else -1) :: st)))
  rw [e1]
  refine w_if_ne X' hd2 hp.2 (fun z => yes ?_) (fun z => no ?_)
  all_goals rcases hL2 (x := x) (y := y) with ⟨q1, q2⟩ | ⟨q1, rfl, -⟩ | ⟨q1, q2⟩
  all_goals first | rfl | exact Int.le_refl _ | (exfalso; rw [z] at q1; revert q1; decide) | (exfalso; exact z q1) | (exfalso; rw [q1] at z; revert z; decide) | (intro u; subst u; exact absurd q2 (Int.lt_irrefl _)) | omega
theorem w_lcif_lt (X : Sn Z n0 bs mx own nm ret p l e R s m args below meth c T h cells slots) {x y : Int64} (hd : decode bs pc = .ok (.lcmp, 1)) (hd2 : decode bs pc' = .ok (.ifCond .lt o, 3)) (hp : pc + 1 = pc' ∧ 0 ≤ (pc' : Int) + o ∧ ((pc' : Int) + o).toNat = pc1 ∧ pc' + 3 = pc2)
    (yes : x.toInt < y.toInt → W p e below s R n0 Q (T.setTop (mkF m pc1 Ls (st)))) (no : x.toInt ≥ y.toInt → W p e below s R n0 Q (T.setTop (mkF m pc2 Ls (st)))) : W p e below s R n0 Q (T.setTop (mkF m pc Ls (.long y :: .long x :: st))) := by
  have X' := X
  obtain ⟨locs, X, eT, N, hs0, hcl, hsl, hx, hZ, rfl, hml, hown, hnm, hret, hlk⟩ := X
  refine W.of (fun t k => XS.lcmp X.here hx rfl hd rfl k) ?_
  have e1 : pc + 1 = pc' := hp.1
  show W p e below s R n0 Q (T.setTop (mkF m (pc + 1) Ls (.int (if x > y then 1 else if x = y then 0 else -1) :: st)))
  rw [e1]
  refine w_if_lt X' hd2 hp.2 (fun z => yes ?_) (fun z => no ?_)
  all_goals rcases hL2 (x := x) (y := y) with ⟨q1, q2⟩ | ⟨q1, rfl, -⟩ | ⟨q1, q2⟩
  all_goals first | rfl | exact Int.le_refl _ | (exfalso; rw [z] at q1; revert q1; decide) | (exfalso; exact z q1) | (exfalso; rw [q1] at z; revert z; decide) | (intro u; subst u; exact absurd q2 (Int.lt_irrefl _)) | omega
theorem w_lcif_ge (X : Sn Z n0 bs mx own nm ret p l e R s m args below meth c T h cells slots) {x y : Int64} (hd : decode bs pc = .ok (.lcmp, 1)) (hd2 : decode bs pc' = .ok (.ifCond .ge o, 3)) (hp : pc + 1 = pc' ∧ 0 ≤ (pc' : Int) + o ∧ ((pc' : Int) + o).toNat = pc1 ∧ pc' + 3 = pc2)
    (yes : x.toInt ≥ y.toInt → W p e below s R n0 Q (T.setTop (mkF m pc1 Ls (st)))) (no : x.toInt < y.toInt → W p e below s R n0 Q (T.setTop (mkF m pc2 Ls (st)))) : W p e below s R n0 Q (T.setTop (mkF m pc Ls (.long y :: .long x :: st))) := by
  have X' := X
  obtain ⟨locs, X, eT, N, hs0, hcl, hsl, hx, hZ, rfl, hml, hown, hnm, hret, hlk⟩ := X
  refine W.of (fun t k => XS.lcmp X.here hx rfl hd rfl k) ?_
  have e1 : pc + 1 = pc' := hp.1
  show W p e below s R n0 Q (T.setTop (mkF m (pc + 1) Ls (.int (if x > y then 1 else if x = y then 0 else -1) :: st)))
  rw [e1]
  refine w_if_ge X' hd2 hp.2 (fun z => yes ?_) (fun z => no ?_)
  all_goals rcases hL2 (x := x) (y := y) with ⟨q1, q2⟩ | ⟨q1, rfl, -⟩ | ⟨q1, q2⟩
  all_goals first | rfl | exact Int.le_refl _ | (exfalso; rw [z] at q1; revert q1; decide) | (exfalso; exact z q1) | (exfalso; rw [q1] at z; revert z; decide) | (intro u; subst u; exact absurd q2 (Int.lt_irrefl _)) | omega
theorem w_lcif_gt (X : Sn Z n0 bs mx own nm ret p l e R s m args below meth c T h cells slots) {x y : Int64} (hd : decode bs pc = .ok (.lcmp, 1)) (hd2 : decode bs pc' = .ok (.ifCond .gt o, 3)) (hp : pc + 1 = pc' ∧ 0 ≤ (pc' : Int) + o ∧ ((pc' : Int) + o).toNat = pc1 ∧ pc' + 3 = pc2)
    (yes : x.toInt > y.toInt → W p e below s R n0 Q (T.setTop (mkF m pc1 Ls (st)))) (no : x.toInt ≤ y.toInt → W p e below s R n0 Q (T.setTop (mkF m pc2 Ls (st)))) : W p e below s R n0 Q (T.setTop (mkF m pc Ls (.long y :: .long x :: st))) := by
  have X' := X
  obtain ⟨locs, X, eT, N, hs0, hcl, hsl, hx, hZ, rfl, hml, hown, hnm, hret, hlk⟩ := X
  refine W.of (fun t k => XS.lcmp X.here hx rfl hd rfl k) ?_
  have e1 : pc + 1 = pc' := hp.1
  show W p e below s R n0 Q (T.setTop (mkF m (pc + 1) Ls (.int (if x > y then 1 else if x = y then 0 else -1) :: st)))
  rw [e1]
  refine w_if_gt X' hd2 hp.2 (fun z => yes ?_) (fun z => no ?_)
  all_goals rcases hL2 (x := x) (y := y) with ⟨q1, q2⟩ | ⟨q1, rfl, -⟩ | ⟨q1, q2⟩
  all_goals first | rfl | exact Int.le_refl _ | (exfalso; rw [z] at q1; revert q1; decide) | (exfalso; exact z q1) | (exfalso; rw [q1] at z; revert z; decide) | (intro u; subst u; exact absurd q2 (Int.lt_irrefl _)) | omega
theorem w_lcif_le (X : Sn Z n0 bs mx own nm ret p l e R s m args below meth c T h cells slots) {x y : Int64} (hd : decode bs pc = .ok (.lcmp, 1)) (hd2 : decode bs pc' = .ok (.ifCond .le o, 3)) (hp : pc + 1 = pc' ∧ 0 ≤ (pc' : Int) + o ∧ ((pc' : Int) + o).toNat = pc1 ∧ pc' + 3 = pc2)
    (yes : x.toInt ≤ y.toInt → W p e below s R n0 Q (T.setTop (mkF m pc1 Ls (st)))) (no : x.toInt > y.toInt → W p e below s R n0 Q (T.setTop (mkF m pc2 Ls (st)))) : W p e below s R n0 Q (T.setTop (mkF m pc Ls (.long y :: .long x :: st))) := by
  have X' := X
  obtain ⟨locs, X, eT, N, hs0, hcl, hsl, hx, hZ, rfl, hml, hown, hnm, hret, hlk⟩ := X
  refine W.of (fun t k => XS.lcmp X.here hx rfl hd rfl k) ?_
  have e1 : pc + 1 = pc' := hp.1
  show W p e below s R n0 Q (T.setTop (mkF m (pc + 1) Ls (.int (if x > y then 1 else if x = y then 0 else -1) :: st)))
  rw [e1]
  refine w_if_le X' hd2 hp.2 (fun z => yes ?_) (fun z => no ?_)
  all_goals rcases hL2 (x := x) (y := y) with ⟨q1, q2⟩ | ⟨q1, rfl, -⟩ | ⟨q1, q2⟩
  all_goals first | rfl | exact Int.le_refl _ | (exfalso; rw [z] at q1; revert q1; decide) | (exfalso; exact z q1) | (exfalso; rw [q1] at z; revert z; decide) | (intro u; subst u; exact absurd q2 (Int.lt_irrefl _)) | omega
theorem w_ifnull_ref (X : Sn Z n0 bs mx own nm ret p l e R s m args below meth c T h cells slots) {b : Addr} (hd : decode bs pc = .ok (.ifnull o, 3)) (hp : pc + 3 = pc')
    (w : W p e below s R n0 Q (T.setTop (mkF m pc' Ls (st)))) : W p e below s R n0 Q (T.setTop (mkF m pc Ls (.ref b :: st))) := by
  obtain ⟨locs, X, eT, N, hs0, hcl, hsl, hx, hZ, rfl, hml, hown, hnm, hret, hlk⟩ := X
  subst hp
  exact W.of (fun t k => XS.ifnullNo X.here hx rfl hd rfl k) w
theorem w_ifnull_null (X : Sn Z n0 bs mx own nm ret p l e R s m args below meth c T h cells slots) (hd : decode bs pc = .ok (.ifnull o, 3)) (hp : 0 ≤ (pc : Int) + o ∧ ((pc : Int) + o).toNat = pc')
    (w : W p e below s R n0 Q (T.setTop (mkF m pc' Ls (st)))) : W p e below s R n0 Q (T.setTop (mkF m pc Ls (.null :: st))) := by
  obtain ⟨locs, X, eT, N, hs0, hcl, hsl, hx, hZ, rfl, hml, hown, hnm, hret, hlk⟩ := X
  exact W.of (fun t k => XS.ifnullYes X.here hx rfl rfl hd rfl hp.1 hp.2 k) w
theorem idxOf {j : Int32} {i n : Nat} {cl : Cell} (q : j.toInt = i) (hi : i < n) (hn : cl.slots.size = n) : ¬ (j < 0 ∨ cl.slots.size ≤ j.toNatClampNeg) ∧ j.toNatClampNeg = i := by
  have e : j.toNatClampNeg = i := by simp only [Int32.toNatClampNeg]; omega
  refine ⟨?_, e⟩
  rw [e, hn, Int32.lt_iff_toInt_lt]
  have : (0 : Int32).toInt = 0 := rfl
  omega
theorem w_iaload (X : Sn Z n0 bs mx own nm ret p l e R s m args below meth c T h cells slots) {a : Addr} {n i : Nat} {f : Nat → Value} {j : Int32} {v : Value} (F : AF Z h a .int n f) (hd : decode bs pc = .ok (.iaload, 1)) (hj : j.toInt = i) (hi : i < n) (hv : f i = v) (hp : pc + 1 = pc')
    (w : W p e below s R n0 Q (T.setTop (mkF m pc' Ls (v :: st)))) : W p e below s R n0 Q (T.setTop (mkF m pc Ls (.int j :: .ref a :: st))) := by
  obtain ⟨locs, X, eT, N, hs0, hcl, hsl, hx, hZ, rfl, hml, hown, hnm, hret, hlk⟩ := X
  obtain ⟨cl, A, r1, r2, r3⟩ := F
  obtain ⟨q1, q2⟩ := idxOf (cl := cl) hj hi r1
  subst hp hv eT
  exact W.of (fun t k => X.iaload hx (j := j) (v := f i) A.1 (State.isArrayOf_alike hZ.alike A.2.1) A.2.2 q1 (by rw [q2]; exact r3 i hi) (g := mkF m pc Ls (.int j :: .ref a :: st)) rfl rfl hd _ k) w
theorem w_laload (X : Sn Z n0 bs mx own nm ret p l e R s m args below meth c T h cells slots) {a : Addr} {n i : Nat} {f : Nat → Value} {j : Int32} {v : Value} (F : AF Z h a .long n f) (hd : decode bs pc = .ok (.laload, 1)) (hj : j.toInt = i) (hi : i < n) (hv : f i = v) (hp : pc + 1 = pc')
    (w : W p e below s R n0 Q (T.setTop (mkF m pc' Ls (v :: st)))) : W p e below s R n0 Q (T.setTop (mkF m pc Ls (.int j :: .ref a :: st))) := by
  obtain ⟨locs, X, eT, N, hs0, hcl, hsl, hx, hZ, rfl, hml, hown, hnm, hret, hlk⟩ := X
  obtain ⟨cl, A, r1, r2, r3⟩ := F
  obtain ⟨q1, q2⟩ := idxOf (cl := cl) hj hi r1
  subst hp hv eT
  exact W.of (fun t k => X.laload hx (j := j) (v := f i) A.1 (State.isArrayOf_alike hZ.alike A.2.1) A.2.2 q1 (by rw [q2]; exact r3 i hi) (g := mkF m pc Ls (.int j :: .ref a :: st)) rfl rfl hd _ k) w
theorem w_baloadB (X : Sn Z n0 bs mx own nm ret p l e R s m args below meth c T h cells slots) {a : Addr} {n i : Nat} {f : Nat → Value} {j : Int32} {v : Value} (F : AF Z h a .byte n f) (hd : decode bs pc = .ok (.baload, 1)) (hj : j.toInt = i) (hi : i < n) (hv : f i = v) (hp : pc + 1 = pc')
    (w : W p e below s R n0 Q (T.setTop (mkF m pc' Ls (v :: st)))) : W p e below s R n0 Q (T.setTop (mkF m pc Ls (.int j :: .ref a :: st))) := by
  obtain ⟨locs, X, eT, N, hs0, hcl, hsl, hx, hZ, rfl, hml, hown, hnm, hret, hlk⟩ := X
  obtain ⟨cl, A, r1, r2, r3⟩ := F
  obtain ⟨q1, q2⟩ := idxOf (cl := cl) hj hi r1
  subst hp hv eT
  exact W.of (fun t k => X.baloadBytes hx (j := j) (v := f i) A.1 (State.isArrayOf_alike hZ.alike A.2.1) A.2.2 q1 (by rw [q2]; exact r3 i hi) (g := mkF m pc Ls (.int j :: .ref a :: st)) rfl rfl hd _ k) w
theorem w_baloadZ (X : Sn Z n0 bs mx own nm ret p l e R s m args below meth c T h cells slots) {a : Addr} {n i : Nat} {f : Nat → Value} {j : Int32} {v : Value} (F : AF Z h a .boolean n f) (hd : decode bs pc = .ok (.baload, 1)) (hj : j.toInt = i) (hi : i < n) (hv : f i = v) (hp : pc + 1 = pc')
    (w : W p e below s R n0 Q (T.setTop (mkF m pc' Ls (v :: st)))) : W p e below s R n0 Q (T.setTop (mkF m pc Ls (.int j :: .ref a :: st))) := by
  obtain ⟨locs, X, eT, N, hs0, hcl, hsl, hx, hZ, rfl, hml, hown, hnm, hret, hlk⟩ := X
  obtain ⟨cl, A, r1, r2, r3⟩ := F
  obtain ⟨q1, q2⟩ := idxOf (cl := cl) hj hi r1
  subst hp hv eT
  exact W.of (fun t k => X.baloadBooleans hx (j := j) (v := f i) A.1 (State.isArrayOf_alike hZ.alike A.2.1) A.2.2 q1 (by rw [q2]; exact r3 i hi) (g := mkF m pc Ls (.int j :: .ref a :: st)) rfl rfl hd _ k) w
theorem w_iastore (X : Sn Z n0 bs mx own nm ret p l e R s m args below meth c T h cells slots) {a : Addr} {n i : Nat} {f : Nat → Value} {j : Int32} {x : Int32} (F : AF Z h a .int n f) (hd : decode bs pc = .ok (.iastore, 1)) (hj : j.toInt = i) (hi : i < n) (hp : pc + 1 = pc') (ha : n0 ≤ a)
    (w : ∀ T' h', Sn Z n0 bs mx own nm ret p l e R s m args below meth c T' h' cells slots → Wr h h' a i (.int x) → W p e below s R n0 Q (T'.setTop (mkF m pc' Ls (st)))) : W p e below s R n0 Q (T.setTop (mkF m pc Ls (.int x :: .int j :: .ref a :: st))) := by
  obtain ⟨locs, X, eT, N, hs0, hcl, hsl, hx, hZ, rfl, hml, hown, hnm, hret, hlk⟩ := X
  obtain ⟨cl, A, r1, r2, r3⟩ := F
  obtain ⟨q1, q2⟩ := idxOf (cl := cl) hj hi r1
  subst hp
  obtain ⟨T', h', X', e', W', st'⟩ := stI X hx hZ eT A (j := j) q1 (g := mkF m pc Ls (.int x :: .int j :: .ref a :: st)) rfl rfl hd
  rw [q2] at X' W'
  exact W.of st' (w T' h' ⟨_, X', e', Fr.snoc X' N ha, by rw [W'.size]; exact hs0, hcl, hsl, hx, hZ, rfl, hml, hown, hnm, hret, hlk⟩ W')
theorem w_lastore (X : Sn Z n0 bs mx own nm ret p l e R s m args below meth c T h cells slots) {a : Addr} {n i : Nat} {f : Nat → Value} {j : Int32} {x : Int64} (F : AF Z h a .long n f) (hd : decode bs pc = .ok (.lastore, 1)) (hj : j.toInt = i) (hi : i < n) (hp : pc + 1 = pc') (ha : n0 ≤ a)
    (w : ∀ T' h', Sn Z n0 bs mx own nm ret p l e R s m args below meth c T' h' cells slots → Wr h h' a i (.long x) → W p e below s R n0 Q (T'.setTop (mkF m pc' Ls (st)))) : W p e below s R n0 Q (T.setTop (mkF m pc Ls (.long x :: .int j :: .ref a :: st))) := by
  obtain ⟨locs, X, eT, N, hs0, hcl, hsl, hx, hZ, rfl, hml, hown, hnm, hret, hlk⟩ := X
  obtain ⟨cl, A, r1, r2, r3⟩ := F
  obtain ⟨q1, q2⟩ := idxOf (cl := cl) hj hi r1
  subst hp
  obtain ⟨T', h', X', e', W', st'⟩ := stJ X hx hZ eT A (j := j) q1 (g := mkF m pc Ls (.long x :: .int j :: .ref a :: st)) rfl rfl hd
  rw [q2] at X' W'
  exact W.of st' (w T' h' ⟨_, X', e', Fr.snoc X' N ha, by rw [W'.size]; exact hs0, hcl, hsl, hx, hZ, rfl, hml, hown, hnm, hret, hlk⟩ W')
theorem w_bastoreB (X : Sn Z n0 bs mx own nm ret p l e R s m args below meth c T h cells slots) {a : Addr} {n i : Nat} {f : Nat → Value} {j : Int32} {x : Int32} (F : AF Z h a .byte n f) (hd : decode bs pc = .ok (.bastore, 1)) (hj : j.toInt = i) (hi : i < n) (hp : pc + 1 = pc') (ha : n0 ≤ a)
    (w : ∀ T' h', Sn Z n0 bs mx own nm ret p l e R s m args below meth c T' h' cells slots → Wr h h' a i (.int (x.toInt8.toInt32)) → W p e below s R n0 Q (T'.setTop (mkF m pc' Ls (st)))) : W p e below s R n0 Q (T.setTop (mkF m pc Ls (.int x :: .int j :: .ref a :: st))) := by
  obtain ⟨locs, X, eT, N, hs0, hcl, hsl, hx, hZ, rfl, hml, hown, hnm, hret, hlk⟩ := X
  obtain ⟨cl, A, r1, r2, r3⟩ := F
  obtain ⟨q1, q2⟩ := idxOf (cl := cl) hj hi r1
  subst hp
  obtain ⟨T', h', X', e', W', st'⟩ := stB X hx hZ eT A (j := j) q1 (g := mkF m pc Ls (.int x :: .int j :: .ref a :: st)) rfl rfl hd
  rw [q2] at X' W'
  exact W.of st' (w T' h' ⟨_, X', e', Fr.snoc X' N ha, by rw [W'.size]; exact hs0, hcl, hsl, hx, hZ, rfl, hml, hown, hnm, hret, hlk⟩ W')
theorem w_bastoreZ (X : Sn Z n0 bs mx own nm ret p l e R s m args below meth c T h cells slots) {a : Addr} {n i : Nat} {f : Nat → Value} {j : Int32} {x : Int32} (F : AF Z h a .boolean n f) (hd : decode bs pc = .ok (.bastore, 1)) (hj : j.toInt = i) (hi : i < n) (hp : pc + 1 = pc') (ha : n0 ≤ a)
    (w : ∀ T' h', Sn Z n0 bs mx own nm ret p l e R s m args below meth c T' h' cells slots → Wr h h' a i (.int (x &&& 1)) → W p e below s R n0 Q (T'.setTop (mkF m pc' Ls (st)))) : W p e below s R n0 Q (T.setTop (mkF m pc Ls (.int x :: .int j :: .ref a :: st))) := by
  obtain ⟨locs, X, eT, N, hs0, hcl, hsl, hx, hZ, rfl, hml, hown, hnm, hret, hlk⟩ := X
  obtain ⟨cl, A, r1, r2, r3⟩ := F
  obtain ⟨q1, q2⟩ := idxOf (cl := cl) hj hi r1
  subst hp
  obtain ⟨T', h', X', e', W', st'⟩ := stZ X hx hZ eT A (j := j) q1 (g := mkF m pc Ls (.int x :: .int j :: .ref a :: st)) rfl rfl hd
  rw [q2] at X' W'
  exact W.of st' (w T' h' ⟨_, X', e', Fr.snoc X' N ha, by rw [W'.size]; exact hs0, hcl, hsl, hx, hZ, rfl, hml, hown, hnm, hret, hlk⟩ W')
theorem w_arraylength (X : Sn Z n0 bs mx own nm ret p l e R s m args below meth c T h cells slots) {a : Addr} {ty : FieldType} {n : Nat} {f : Nat → Value} {z : Int32} (F : AF Z h a ty n f) (hd : decode bs pc = .ok (.arraylength, 1)) (hz : z.toInt = n) (hp : pc + 1 = pc')
    (w : W p e below s R n0 Q (T.setTop (mkF m pc' Ls (.int z :: st)))) : W p e below s R n0 Q (T.setTop (mkF m pc Ls (.ref a :: st))) := by
  obtain ⟨locs, X, eT, N, hs0, hcl, hsl, hx, hZ, rfl, hml, hown, hnm, hret, hlk⟩ := X
  obtain ⟨cl, A, r1, r2, r3⟩ := F
  subst hp eT
  have e1 : cl.slots.size.toInt32 = z := Int32.toInt_inj.mp (by rw [len_toInt (by rw [r1]; exact r2), hz, r1])
  rw [← e1] at w
  exact W.of (fun t k => X.arraylength hx A.1 (State.isArrayOf_alike hZ.alike A.2.1) (g := mkF m pc Ls (.ref a :: st)) rfl rfl hd _ k) w
theorem w_newarray (X : Sn Z n0 bs mx own nm ret p l e R s m args below meth c T h cells slots) {aty : ArrayType} {z : Int32} {n cap : Nat} (hd : decode bs pc = .ok (.newarray aty, 2)) (w0 : (Cond.arrayClass (newarray.typeOf aty)).before a0 Z = true) (hz : z.toInt = n) (hcap : n ≤ cap) (hr : cap * 8 ≤ 536870912 ∧ cells + 1 ≤ R.cells ∧ slots + cap ≤ R.slots ∧ pc + 2 = pc')
    (w : ∀ T' h' b, Sn Z n0 bs mx own nm ret p l e R s m args below meth c T' h' (cells + 1) (slots + cap) → Ext h h' → b = h.size → n0 ≤ b → AF Z h' b (newarray.typeOf aty) n (fun _ => defaultValue (newarray.typeOf aty)) → W p e below s R n0 Q (T'.setTop (mkF m pc' Ls (.ref b :: st)))) : W p e below s R n0 Q (T.setTop (mkF m pc Ls (.int z :: st))) := by
  obtain ⟨locs, X, eT, N, hs0, hcl, hsl, hx, hZ, rfl, hml, hown, hnm, hret, hlk⟩ := X
  have hn : ¬ z < 0 := by rw [Int32.lt_iff_toInt_lt]; have : (0 : Int32).toInt = 0 := rfl; omega
  obtain ⟨T', h', cA, X', e', E', A', st'⟩ := newP X hx hZ w0 eT (g := mkF m pc Ls (.int z :: st)) rfl hd rfl hn (cap := cap) (by simp only [Int32.toNatClampNeg]; omega) hr.1 hr.2.1 hr.2.2.1
  obtain ⟨-, hr2, hr3, hp⟩ := hr
  subst hp
  exact W.of st' (w T' h' _ ⟨_, X', e', N, Nat.le_trans hs0 E'.1, hr2, hr3, hx, hZ, rfl, hml, hown, hnm, hret, hlk⟩ E' rfl hs0 (AF.new A' hz))
theorem w_ireturn (X : Sn Z n0 bs mx own nm ret p l e R s m args below meth c T h cells slots) {v : Int32} (hd : decode bs pc = .ok (.ireturn, 1)) (hq : ret = some .int) (q : Q (some (.int v)) h) : W p e below s R n0 Q (T.setTop (mkF m pc Ls (.int v :: st))) := by
  obtain ⟨locs, X, eT, N, hs0, hcl, hsl, hx, hZ, rfl, hml, hown, hnm, hret, hlk⟩ := X
  obtain ⟨fs, hr, hrun, hended, hW, hsame⟩ := X.leave (v := some (.int v)) (fun u => by rw [hret, hq] at u; cases u) hlk
  exact ⟨_, _, retOut X hx (hret.trans hq) rfl (Or.inl ⟨rfl, Or.inl rfl, _, rfl⟩) hd hr, hrun, hended, _, locs, rfl, ⟨N, by rw [← eT] at hs0; exact hs0, by rw [← eT] at q; exact q⟩, ⟨_, rfl⟩, hW, hsame.mono hcl hsl⟩
theorem w_lreturn (X : Sn Z n0 bs mx own nm ret p l e R s m args below meth c T h cells slots) {v : Int64} (hd : decode bs pc = .ok (.lreturn, 1)) (hq : ret = some .long) (q : Q (some (.long v)) h) : W p e below s R n0 Q (T.setTop (mkF m pc Ls (.long v :: st))) := by
  obtain ⟨locs, X, eT, N, hs0, hcl, hsl, hx, hZ, rfl, hml, hown, hnm, hret, hlk⟩ := X
  obtain ⟨fs, hr, hrun, hended, hW, hsame⟩ := X.leave (v := some (.long v)) (fun u => by rw [hret, hq] at u; cases u) hlk
  exact ⟨_, _, retOut X hx (hret.trans hq) rfl (Or.inr (Or.inl ⟨rfl, rfl, _, rfl⟩)) hd hr, hrun, hended, _, locs, rfl, ⟨N, by rw [← eT] at hs0; exact hs0, by rw [← eT] at q; exact q⟩, ⟨_, rfl⟩, hW, hsame.mono hcl hsl⟩
theorem w_areturn (X : Sn Z n0 bs mx own nm ret p l e R s m args below meth c T h cells slots) {v : Value} {t : FieldType} (hd : decode bs pc = .ok (.areturn, 1)) (hq : ret = some t) (ht : t.isReference = true) (hv : v.isRef = true) (hn : narrow t v = v) (q : Q (some v) h) : W p e below s R n0 Q (T.setTop (mkF m pc Ls (v :: st))) := by
  obtain ⟨locs, X, eT, N, hs0, hcl, hsl, hx, hZ, rfl, hml, hown, hnm, hret, hlk⟩ := X
  obtain ⟨fs, hr, hrun, hended, hW, hsame⟩ := X.leave (v := some v) (fun u => by rw [hret, hq] at u; cases u) hlk
  exact ⟨_, _, retOut X hx (hret.trans hq) hn (Or.inr (Or.inr (Or.inr (Or.inr ⟨rfl, ht, hv⟩)))) hd hr, hrun, hended, _, locs, rfl, ⟨N, by rw [← eT] at hs0; exact hs0, by rw [← eT] at q; exact q⟩, ⟨_, rfl⟩, hW, hsame.mono hcl hsl⟩
theorem w_nreturn (X : Sn Z n0 bs mx own nm ret p l e R s m args below meth c T h cells slots) {v : Int32} {t : FieldType} (hd : decode bs pc = .ok (.ireturn, 1)) (hq : ret = some t) (ht : t = .boolean ∨ t = .byte ∨ t = .char ∨ t = .short) (q : Q (some (.int (nar t v))) h) : W p e below s R n0 Q (T.setTop (mkF m pc Ls (.int v :: st))) := by
  obtain ⟨locs, X, eT, N, hs0, hcl, hsl, hx, hZ, rfl, hml, hown, hnm, hret, hlk⟩ := X
  obtain ⟨fs, hr, hrun, hended, hW, hsame⟩ := X.leave (v := some (.int (nar t v))) (fun u => by rw [hret, hq] at u; cases u) hlk
  exact ⟨_, _, retN X hx (hret.trans hq) ht hd hr, hrun, hended, _, locs, rfl, ⟨N, by rw [← eT] at hs0; exact hs0, by rw [← eT] at q; exact q⟩, ⟨_, rfl⟩, hW, hsame.mono hcl hsl⟩
theorem w_return (X : Sn Z n0 bs mx own nm ret p l e R s m args below meth c T h cells slots) (hd : decode bs pc = .ok (.return_, 1)) (hq : ret = none) (q : Q (none) h) : W p e below s R n0 Q (T.setTop (mkF m pc Ls ([]))) := by
  obtain ⟨locs, X, eT, N, hs0, hcl, hsl, hx, hZ, rfl, hml, hown, hnm, hret, hlk⟩ := X
  obtain ⟨fs, hr, hrun, hended, hW, hsame⟩ := X.leave (v := none) (fun _ => rfl) hlk
  exact ⟨_, _, X.returnOut hx (hret.trans hq) hd hr, hrun, hended, _, locs, rfl, ⟨N, by rw [← eT] at hs0; exact hs0, by rw [← eT] at q; exact q⟩, ⟨_, rfl⟩, hW, hsame.mono hcl hsl⟩
theorem w_callS (X : Sn Z n0 bs mx own nm ret p l e R s m args below meth c T h cells slots) {index : Nat} {y : MethodName} {b2 : ByteArray} {m2 : Nat} {r2 : Option FieldType} {R2 : Room} {argsL rest : List Value} {wd : Nat} {ps : List FieldType} {r3 : Option FieldType} {Q2 : Option Value → Heap → Prop} 
    (hd : decode bs pc = .ok (.invokestatic index, 3)) (w1 : (Cond.methodLink own index y).before a0 Z = true) (w2 : (Cond.static y).before a0 Z = true) (w3 : (Cond.initialized y.cls).before a0 Z = true) (w4 : (Cond.code y b2 m2 r2).before a0 Z = true)
    (hy : y.cls ≠ "java/lang/invoke/MethodHandle" ∧ y.cls ≠ "java/lang/invoke/VarHandle") (C : Ct l Z y b2 m2 r2 [] R2 argsL.toArray h n0 Q2) (hpd : parseMethodDescriptor y.desc = some ⟨ps, r3⟩) (hlen : argsL.length = ps.length)
    (hst : st = argsL.reverse ++ rest) (hsz : Ls.size = mx) (hwd : (rest.map fun v => v.category).sum ≤ wd) (hr : R2.frames + 1 ≤ R.frames ∧ wd + (m2 + 11) + R2.locals ≤ R.locals ∧ cells + R2.cells ≤ R.cells ∧ slots + R2.slots ≤ R.slots ∧ pc + 3 = pc')
    (w : ∀ v T' h', Sn Z n0 bs mx own nm ret p l e R s m args below meth c T' h' (cells + R2.cells) (slots + R2.slots) → Q2 v h' → W p e below s R n0 Q (T'.setTop (mkF m pc' Ls (v.toList ++ rest)))) : W p e below s R n0 Q (T.setTop (mkF m pc Ls (st))) := by
  obtain ⟨locs, X, eT, N, hs0, hcl, hsl, hx, hZ, rfl, hml, hown, hnm, hret, hlk⟩ := X
  obtain ⟨hr1, hr2, hr3, hr4, hp⟩ := hr
  obtain ⟨v, vm1, ⟨T', L', k', n'⟩, -, X', ⟨Lc, hQ, l', y', z'⟩, st'⟩ := Jvm.LawKit.callS X hx (y := y) hown (mvT hZ w1) (mvT hZ w2) (mvT hZ w3) (mvT hZ w4) hy (backOf (W := wd) (Q := Qc n0 Q2) C hZ w4 w3 hr1 hr2) (g := mkF m pc Ls st) rfl (hsz.trans hml.symm) (argsL := argsL) (rest := rest) (lenOf hpd hlen) hst (by show 2 * 0 + _ ≤ _; omega) hd (fun _ _ => ⟨rfl, eT, hr3, hr4⟩)
  dsimp only [Pt.U, Pt.locs, Pt.cells, Pt.slots] at X' l' y' z' st' hQ
  subst l' y' z' hp
  exact W.of st' (w v T' T'.heap ⟨_, X', rfl, Fr.app N hQ.1, hQ.2.1, hr3, hr4, hx, hZ, rfl, hml, hown, hnm, hret, hlk⟩ hQ.2.2)
theorem w_callC (X : Sn Z n0 bs mx own nm ret p l e R s m args below meth c T h cells slots) {index : Nat} {y : MethodName} {b2 : ByteArray} {m2 : Nat} {R2 : Room} {argsL rest : List Value} {wd : Nat} {ps : List FieldType} {r3 : Option FieldType} {Q2 : Option Value → Heap → Prop} {a : Addr} (hy1 : y.name = "<init>")
    (hd : decode bs pc = .ok (.invokespecial index, 3)) (w1 : (Cond.methodLink own index y).before a0 Z = true) (w2 : (Cond.instanceMethod y).before a0 Z = true) (w3 : (Cond.initialized y.cls).before a0 Z = true) (w4 : (Cond.code y b2 m2 none).before a0 Z = true)
    (hy : y.cls ≠ "java/lang/invoke/MethodHandle" ∧ y.cls ≠ "java/lang/invoke/VarHandle") (C : Ct l Z y b2 m2 none [] R2 (.ref a :: argsL).toArray h n0 Q2) (hpd : parseMethodDescriptor y.desc = some ⟨ps, r3⟩) (hlen : argsL.length = ps.length)
    (hst : st = argsL.reverse ++ .ref a :: rest) (hsz : Ls.size = mx) (hwd : (rest.map fun v => v.category).sum ≤ wd) (hr : R2.frames + 1 ≤ R.frames ∧ wd + (m2 + 11) + R2.locals ≤ R.locals ∧ cells + R2.cells ≤ R.cells ∧ slots + R2.slots ≤ R.slots ∧ pc + 3 = pc')
    (w : ∀ v T' h', Sn Z n0 bs mx own nm ret p l e R s m args below meth c T' h' (cells + R2.cells) (slots + R2.slots) → Q2 v h' → W p e below s R n0 Q (T'.setTop (mkF m pc' Ls (v.toList ++ rest)))) : W p e below s R n0 Q (T.setTop (mkF m pc Ls (st))) := by
  obtain ⟨locs, X, eT, N, hs0, hcl, hsl, hx, hZ, rfl, hml, hown, hnm, hret, hlk⟩ := X
  obtain ⟨hr1, hr2, hr3, hr4, hp⟩ := hr
  obtain ⟨v, vm1, ⟨T', L', k', n'⟩, -, X', ⟨Lc, hQ, l', y', z'⟩, st'⟩ := X.specialBack hx (y := y) hy1 hown (mvT hZ w1) (mvT hZ w2) (mvT hZ w4) hy (backOf (W := wd) (Q := Qc n0 Q2) C hZ w4 w3 hr1 hr2) (g := mkF m pc Ls st) rfl (hsz.trans hml.symm) (Steps.refl _) (a := a) (argsL := argsL) (rest := rest) (lenOf hpd hlen) hst (by show 2 * 0 + _ ≤ _; omega) hd (fun _ _ => ⟨rfl, eT, hr3, hr4⟩)
  dsimp only [Pt.U, Pt.locs, Pt.cells, Pt.slots] at X' l' y' z' st' hQ
  subst l' y' z' hp
  exact W.fwd st' (w v T' T'.heap ⟨_, X', rfl, Fr.app N hQ.1, hQ.2.1, hr3, hr4, hx, hZ, rfl, hml, hown, hnm, hret, hlk⟩ hQ.2.2)
theorem w_callV (X : Sn Z n0 bs mx own nm ret p l e R s m args below meth c T h cells slots) {index : Nat} {y : MethodName} {b2 : ByteArray} {m2 : Nat} {r2 : Option FieldType} {R2 : Room} {argsL rest : List Value} {wd : Nat} {ps : List FieldType} {r3 : Option FieldType} {Q2 : Option Value → Heap → Prop} {a : Addr} {K : String} (E : Exa Z h a K)
    (hd : decode bs pc = .ok (.invokevirtual index, 3)) (w1 : (Cond.methodLink own index y).before a0 Z = true) (wd0 : (Cond.declares y).before a0 Z = true) (ws0 : (Cond.selects K y y).before a0 Z = true) (w2 : (Cond.instanceMethod y).before a0 Z = true) (w3 : (Cond.initialized y.cls).before a0 Z = true) (w4 : (Cond.code y b2 m2 r2).before a0 Z = true)
    (hy : y.cls ≠ "java/lang/invoke/MethodHandle" ∧ y.cls ≠ "java/lang/invoke/VarHandle") (C : Ct l Z y b2 m2 r2 [] R2 (.ref a :: argsL).toArray h n0 Q2) (hpd : parseMethodDescriptor y.desc = some ⟨ps, r3⟩) (hlen : argsL.length = ps.length)
    (hst : st = argsL.reverse ++ .ref a :: rest) (hsz : Ls.size = mx) (hwd : (rest.map fun v => v.category).sum ≤ wd) (hr : R2.frames + 1 ≤ R.frames ∧ wd + (m2 + 11) + R2.locals ≤ R.locals ∧ cells + R2.cells ≤ R.cells ∧ slots + R2.slots ≤ R.slots ∧ pc + 3 = pc')
    (w : ∀ v T' h', Sn Z n0 bs mx own nm ret p l e R s m args below meth c T' h' (cells + R2.cells) (slots + R2.slots) → Q2 v h' → W p e below s R n0 Q (T'.setTop (mkF m pc' Ls (v.toList ++ rest)))) : W p e below s R n0 Q (T.setTop (mkF m pc Ls (st))) := by
  obtain ⟨locs, X, eT, N, hs0, hcl, hsl, hx, hZ, rfl, hml, hown, hnm, hret, hlk⟩ := X
  obtain ⟨hr1, hr2, hr3, hr4, hp⟩ := hr
  obtain ⟨cq, kq, qa, qb, qc⟩ := isOf hZ eT E
  obtain ⟨v, vm1, ⟨T', L', k', n'⟩, -, X', ⟨Lc, hQ, l', y', z'⟩, st'⟩ := X.virtualBack hx (y := y) (z := y) hown (mvT hZ w1) (mvT hZ wd0) (notFace_of_selects (args := #[]) (mvT hZ ws0)) (mvT hZ ws0) (mvT hZ w2) hy (backOf (W := wd) (Q := Qc n0 Q2) C hZ w4 w3 hr1 hr2) qa qc (g := mkF m pc Ls st) rfl (hsz.trans hml.symm) (Steps.refl _) (argsL := argsL) (rest := rest) (lenOf hpd hlen) hst (by show 2 * 0 + _ ≤ _; omega) hd (fun _ _ => ⟨rfl, eT, hr3, hr4⟩)
  dsimp only [Pt.U, Pt.locs, Pt.cells, Pt.slots] at X' l' y' z' st' hQ
  subst l' y' z' hp
  exact W.fwd st' (w v T' T'.heap ⟨_, X', rfl, Fr.app N hQ.1, hQ.2.1, hr3, hr4, hx, hZ, rfl, hml, hown, hnm, hret, hlk⟩ hQ.2.2)
theorem w_initO (X : Sn Z n0 bs mx own nm ret p l e R s m args below meth c T h cells slots) {idx : Nat} {a : Addr} {wd : Nat} (hd : decode bs pc = .ok (.invokespecial idx, 3)) (w1 : (Cond.methodLink own idx Lib.objectInit).before a0 Z = true) (w2 : (Cond.instanceMethod Lib.objectInit).before a0 Z = true) (w3 : (Cond.code Lib.objectInit ⟨#[0xb1]⟩ 1 none).before a0 Z = true)
    (hsz : Ls.size = mx) (hwd : (st.map fun v => v.category).sum ≤ wd) (hr : 1 ≤ R.frames ∧ wd + 12 ≤ R.locals ∧ pc + 3 = pc') (w : ∀ T', Sn Z n0 bs mx own nm ret p l e R s m args below meth c T' h cells slots → W p e below s R n0 Q (T'.setTop (mkF m pc' Ls (st)))) : W p e below s R n0 Q (T.setTop (mkF m pc Ls (.ref a :: st))) := by
  obtain ⟨locs, X, eT, N, hs0, hcl, hsl, hx, hZ, rfl, hml, hown, hnm, hret, hlk⟩ := X
  obtain ⟨hr1, hr2, hp⟩ := hr
  subst hp
  obtain ⟨T', X', e', st'⟩ := initO X hx hZ hown w1 w2 w3 eT (g := mkF m pc Ls (.ref a :: st)) rfl (hsz.trans hml.symm) rfl hd hr1 (W := wd) (by show 2 * 0 + _ ≤ _; omega) hr2
  exact W.of st' (w T' ⟨_, X', e', N, hs0, hcl, hsl, hx, hZ, rfl, hml, hown, hnm, hret, hlk⟩)
theorem w_getfield (X : Sn Z n0 bs mx own nm ret p l e R s m args below meth c T h cells slots) {R0 O n d : String} {index : Nat} {a : Addr} {v : Value} (F : Fld Z h a O n d v) (hd : decode bs pc = .ok (.getfield index, 3)) (w1 : (Cond.fieldLink own index R0 n d).before a0 Z = true) (via : Via Z R0 O n d) (hp : pc + 3 = pc')
    (w : ∀ T', Sn Z n0 bs mx own nm ret p l e R s m args below meth c T' h cells slots → W p e below s R n0 Q (T'.setTop (mkF m pc' Ls (v :: st)))) : W p e below s R n0 Q (T.setTop (mkF m pc Ls (.ref a :: st))) := by
  obtain ⟨locs, X, eT, N, hs0, hcl, hsl, hx, hZ, rfl, hml, hown, hnm, hret, hlk⟩ := X
  subst hp
  obtain ⟨T', X', e', st'⟩ := getF X hx hZ hown (host := "") (Or.inl w1) via eT F (g := mkF m pc Ls (.ref a :: st)) rfl rfl hd
  exact W.of st' (w T' ⟨_, X', e', N, hs0, hcl, hsl, hx, hZ, rfl, hml, hown, hnm, hret, hlk⟩)
theorem w_putfield (X : Sn Z n0 bs mx own nm ret p l e R s m args below meth c T h cells slots) {R0 O n d K : String} {index kk : Nat} {ty : FieldType} {a : Addr} {v v' old : Value} (F : Fld Z h a O n d old) (E : Exa Z h a K) (hd : decode bs pc = .ok (.putfield index, 3)) (w1 : (Cond.fieldLink own index R0 n d).before a0 Z = true) (via : Via Z R0 O n d)
    (L : (Cond.lays K O n d).before a0 Z = true ∨ ((Cond.laysFinal K O n d).before a0 Z = true ∧ own = O ∧ nm = "<init>")) (wi : (Cond.instantiable K kk).before a0 Z = true) (hty : parseFieldDescriptor d = some ty) (hn : narrow ty v = v') (hf : fits ty v' = true) (hp : pc + 3 = pc') (ha : n0 ≤ a)
    (w : ∀ T' h', Sn Z n0 bs mx own nm ret p l e R s m args below meth c T' h' cells slots → Wr h h' a (Jvm.RoadKit.slotOf Z O n d) v' → W p e below s R n0 Q (T'.setTop (mkF m pc' Ls (st)))) : W p e below s R n0 Q (T.setTop (mkF m pc Ls (v :: .ref a :: st))) := by
  obtain ⟨locs, X, eT, N, hs0, hcl, hsl, hx, hZ, rfl, hml, hown, hnm, hret, hlk⟩ := X
  subst hp
  obtain ⟨T', h', X', e', W', st'⟩ := putFN X hx hZ hown w1 via eT F E (L.imp id fun q => ⟨q.1, q.2.1, hnm.trans q.2.2⟩) wi hty hn hf (g := mkF m pc Ls (v :: .ref a :: st)) rfl rfl hd
  exact W.of st' (w T' h' ⟨_, X', e', Fr.snoc X' N ha, by rw [W'.size]; exact hs0, hcl, hsl, hx, hZ, rfl, hml, hown, hnm, hret, hlk⟩ W')
theorem w_new (X : Sn Z n0 bs mx own nm ret p l e R s m args below meth c T h cells slots) {K : String} {index kk : Nat} (hd : decode bs pc = .ok (.new index, 3)) (w1 : (Cond.classLink own index K).before a0 Z = true) (wi : (Cond.instantiable K kk).before a0 Z = true) (wz : (Cond.initialized K).before a0 Z = true) (hr : cells + 1 ≤ R.cells ∧ slots + kk ≤ R.slots ∧ pc + 3 = pc')
    (w : ∀ T' h' b, Sn Z n0 bs mx own nm ret p l e R s m args below meth c T' h' (cells + 1) (slots + kk) → Ext h h' → b = h.size → n0 ≤ b → Exa Z h' b K → (∀ {O nm d : String} {ty : FieldType}, Laid Z a0 K O nm d → parseFieldDescriptor d = some ty → Fld Z h' b O nm d (defaultValue ty)) → W p e below s R n0 Q (T'.setTop (mkF m pc' Ls (.ref b :: st)))) : W p e below s R n0 Q (T.setTop (mkF m pc Ls (st))) := by
  obtain ⟨locs, X, eT, N, hs0, hcl, hsl, hx, hZ, rfl, hml, hown, hnm, hret, hlk⟩ := X
  obtain ⟨hr1, hr2, hp⟩ := hr
  subst hp
  obtain ⟨T', h', X', e', E', A', D', -, st'⟩ := newO X hx hZ hown w1 wi wz eT (g := mkF m pc Ls st) rfl hd hr1 hr2
  exact W.of st' (w T' h' _ ⟨_, X', e', N, Nat.le_trans hs0 E'.1, hr1, hr2, hx, hZ, rfl, hml, hown, hnm, hret, hlk⟩ E' rfl hs0 A' D')
end
end Jvm.OwnW
namespace Jvm.Pilot.@@N@@
open Jvm Jvm.ClassFile Sem Op Lib Jvm.Free Jvm.Stand Jvm.LawKit Jvm.RoadKit Bundle Jvm.OwnW Jvm.Pilot.@@N@@.Jvm.D

theorem own_i {i : Nat} (h : i < 2 ^ 31) : (Int32.ofNat i).toInt = i := Int32.toInt_ofNat_small h
theorem own_of {x : Int32} {n : Nat} (h : x.toInt = n) : x = Int32.ofNat n := Int32.toInt_inj.mp (by rw [h, own_i (by have := x.toInt_lt; omega)])
theorem own_addn (i j : Nat) : Int32.ofNat i + Int32.ofNat j = Int32.ofNat (i + j) := (Int32.ofNat_add i j).symm
theorem own_subn {N : Nat} (h : 1 ≤ N) (h2 : N ≤ 9) : (Int32.ofNat N - 1).toInt = ((N - 1 : Nat) : Int) := by
  have e := own_i (i := N) (by omega)
  have e2 : (Int32.ofNat N - 1).toInt = (Int32.ofNat N).toInt - 1 := Jvm.Kit.i32_sub (q := 1) (by show -2 ^ 31 ≤ (Int32.ofNat N).toInt - 1; omega) (by show (Int32.ofNat N).toInt - 1 < 2 ^ 31; omega)
  omega
def own_more (x : Int64) (s : Int32) : Int32 := if lus x s = 0 then 0 else 1
def own_v (x : Int64) : Nat → Int64
  | 0 => x
  | i + 1 => lus (own_v x i) 7
def own_b (N : Nat) (x : Int64) (i : Nat) : Int32 := (if i + 1 < N then (own_v x i &&& 127 ||| 128).toInt32 else (own_v x i).toInt32).toInt8.toInt32.toInt8.toInt32
def own_f (base : Nat → Value) (att N : Nat) (x : Int64) (k : Nat) : Nat → Value := fun j => if att ≤ j ∧ j < att + k then .int (own_b N x (j - att)) else base j
theorem own_up (base : Nat → Value) (att N : Nat) (x : Int64) (ii : Nat) (j : Nat) : up (own_f base att N x ii) (att + ii) (.int (own_b N x ii)) j = own_f base att N x (ii + 1) j := by
  unfold up own_f
  by_cases q : j = att + ii
  · subst q; rw [if_pos rfl, if_pos (by omega), Nat.add_sub_cancel_left]
  · rw [if_neg q]
    by_cases r : att ≤ j ∧ j < att + ii
    · rw [if_pos r, if_pos (by omega)]
    · rw [if_neg r, if_neg (by omega)]
theorem own_b1 {N : Nat} {x : Int64} {i : Nat} (h : i + 1 < N) : own_b N x i = (own_v x i &&& 127 ||| 128).toInt32.toInt8.toInt32.toInt8.toInt32 := by unfold own_b; rw [if_pos h]
theorem own_b0 {N : Nat} {x : Int64} {i : Nat} (h : ¬ i + 1 < N) : own_b N x i = (own_v x i).toInt32.toInt8.toInt32.toInt8.toInt32 := by unfold own_b; rw [if_neg h]
theorem own_sm : ∀ i : Nat, i < 10 → 7 * Int32.ofNat i = Int32.ofNat (7 * i) := by decide +kernel
theorem own_t32 {y : Int64} {q : Nat} (h : un y = q) (hq : q < 2 ^ 31) : y.toInt32 = Int32.ofNat q := by
  apply Int32.toInt_inj.mp
  rw [own_i hq, Int64.toInt_toInt32, toInt_of_un (by omega), h, Int.bmod_def]; omega
theorem own_vU (x : Int64) : ∀ i, un (own_v x i) = un x / 2 ^ (7 * i)
  | 0 => by rw [Nat.mul_zero, Nat.pow_zero, Nat.div_one]; rfl
  | i + 1 => by
    show un (lus (own_v x i) (Int32.ofNat 7)) = _
    rw [un_lus _ (by decide), own_vU x i, Nat.div_div_eq_div_mul, ← Nat.pow_add]; rfl
theorem own_mo (x : Int64) {k : Nat} (hk : k < 64) : own_more x (Int32.ofNat k) = if un x < 2 ^ k then 0 else 1 := by
  unfold own_more
  have h := un_lus x hk
  by_cases q : un x < 2 ^ k
  · rw [if_pos q, if_pos]
    apply un_inj; rw [h, Nat.div_eq_of_lt q]; rfl
  · rw [if_neg q, if_neg]
    intro z; rw [z] at h
    have : (0 : Nat) = un x / 2 ^ k := h
    have := Nat.div_pos (Nat.not_lt.mp q) (Nat.two_pow_pos k)
    omega
theorem own_lenN {x : Int64} (h0 : 0 ≤ x.toInt) : ∃ N : Nat, 1 + own_more x 7 + own_more x 14 + own_more x 21 + own_more x 28 + own_more x 35 + own_more x 42 + own_more x 49 + own_more x 56 + own_more x 63 = Int32.ofNat N ∧ 1 ≤ N ∧ N ≤ 9 ∧ x.toInt < 2 ^ (7 * N) ∧ (N = 1 ∨ 2 ^ (7 * (N - 1)) ≤ x.toInt) := by
  obtain ⟨e1, e2⟩ := un_of_nonneg h0
  have m7 := own_mo x (k := 7) (by decide)
  have m14 := own_mo x (k := 14) (by decide)
  have m21 := own_mo x (k := 21) (by decide)
  have m28 := own_mo x (k := 28) (by decide)
  have m35 := own_mo x (k := 35) (by decide)
  have m42 := own_mo x (k := 42) (by decide)
  have m49 := own_mo x (k := 49) (by decide)
  have m56 := own_mo x (k := 56) (by decide)
  have m63 := own_mo x (k := 63) (by decide)
  rw [if_pos e2] at m63
  have key : ∀ N : Nat, ∀ v : Int32, (1 + own_more x 7 + own_more x 14 + own_more x 21 + own_more x 28 + own_more x 35 + own_more x 42 + own_more x 49 + own_more x 56 + own_more x 63 = v) → v = Int32.ofNat N → 1 + own_more x 7 + own_more x 14 + own_more x 21 + own_more x 28 + own_more x 35 + own_more x 42 + own_more x 49 + own_more x 56 + own_more x 63 = Int32.ofNat N := fun N v h1 h2 => h1.trans h2
  show ∃ N : Nat, 1 + own_more x (Int32.ofNat 7) + own_more x (Int32.ofNat 14) + own_more x (Int32.ofNat 21) + own_more x (Int32.ofNat 28) + own_more x (Int32.ofNat 35) + own_more x (Int32.ofNat 42) + own_more x (Int32.ofNat 49) + own_more x (Int32.ofNat 56) + own_more x (Int32.ofNat 63) = Int32.ofNat N ∧ _
  rw [m7, m14, m21, m28, m35, m42, m49, m56, m63]
  by_cases a7 : un x < 2 ^ 7
  · refine ⟨1, ?_, by decide, by decide, by show _ < (128 : Int); omega, Or.inl rfl⟩
    rw [if_pos a7, if_pos (by omega), if_pos (by omega), if_pos (by omega), if_pos (by omega), if_pos (by omega), if_pos (by omega), if_pos (by omega)]; decide
  · by_cases a14 : un x < 2 ^ 14
    · refine ⟨2, ?_, by decide, by decide, by show _ < (16384 : Int); omega, Or.inr (by show (128 : Int) ≤ _; omega)⟩
      rw [if_neg a7, if_pos (by omega), if_pos (by omega), if_pos (by omega), if_pos (by omega), if_pos (by omega), if_pos (by omega), if_pos (by omega)]; decide
    · by_cases a21 : un x < 2 ^ 21
      · refine ⟨3, ?_, by decide, by decide, by show _ < (2097152 : Int); omega, Or.inr (by show (16384 : Int) ≤ _; omega)⟩
        rw [if_neg a7, if_neg a14, if_pos (by omega), if_pos (by omega), if_pos (by omega), if_pos (by omega), if_pos (by omega), if_pos (by omega)]; decide
      · by_cases a28 : un x < 2 ^ 28
        · refine ⟨4, ?_, by decide, by decide, by show _ < (268435456 : Int); omega, Or.inr (by show (2097152 : Int) ≤ _; omega)⟩
          rw [if_neg a7, if_neg a14, if_neg a21, if_pos (by omega), if_pos (by omega), if_pos (by omega), if_pos (by omega), if_pos (by omega)]; decide
        · by_cases a35 : un x < 2 ^ 35
          · refine ⟨5, ?_, by decide, by decide, by show _ < (34359738368 : Int); omega, Or.inr (by show (268435456 : Int) ≤ _; omega)⟩
            rw [if_neg a7, if_neg a14, if_neg a21, if_neg a28, if_pos (by omega), if_pos (by omega), if_pos (by omega), if_pos (by omega)]; decide
          · by_cases a42 : un x < 2 ^ 42
            · refine ⟨6, ?_, by decide, by decide, by show _ < (4398046511104 : Int); omega, Or.inr (by show (34359738368 : Int) ≤ _; omega)⟩
              rw [if_neg a7, if_neg a14, if_neg a21, if_neg a28, if_neg a35, if_pos (by omega), if_pos (by omega), if_pos (by omega)]; decide
            · by_cases a49 : un x < 2 ^ 49
              · refine ⟨7, ?_, by decide, by decide, by show _ < (562949953421312 : Int); omega, Or.inr (by show (4398046511104 : Int) ≤ _; omega)⟩
                rw [if_neg a7, if_neg a14, if_neg a21, if_neg a28, if_neg a35, if_neg a42, if_pos (by omega), if_pos (by omega)]; decide
              · by_cases a56 : un x < 2 ^ 56
                · refine ⟨8, ?_, by decide, by decide, by show _ < (72057594037927936 : Int); omega, Or.inr (by show (562949953421312 : Int) ≤ _; omega)⟩
                  rw [if_neg a7, if_neg a14, if_neg a21, if_neg a28, if_neg a35, if_neg a42, if_neg a49, if_pos (by omega)]; decide
                · refine ⟨9, ?_, by decide, by decide, by show _ < (9223372036854775808 : Int); omega, Or.inr (by show (72057594037927936 : Int) ≤ _; omega)⟩
                  rw [if_neg a7, if_neg a14, if_neg a21, if_neg a28, if_neg a35, if_neg a42, if_neg a49, if_neg a56]; decide
theorem own_m128 : ∀ i : Nat, i < 64 → (-128 : Int64).toBitVec.getLsbD i = decide (7 ≤ i) := by decide +kernel
theorem own_hi (v : Int64) : v &&& -128 = 0 ↔ un v < 128 := by
  constructor
  · intro h
    have hb : ∀ i, 7 ≤ i → v.toBitVec.getLsbD i = false := fun i hi => by
      by_cases q : i < 64
      · have := congrArg (fun z : Int64 => z.toBitVec.getLsbD i) h
        simp only [Int64.toBitVec_and, BitVec.getLsbD_and, own_m128 i q, hi, decide_true, Bool.and_true] at this
        rw [this]; exact BitVec.getLsbD_zero
      · exact BitVec.getLsbD_of_ge _ _ (by omega)
    exact Nat.lt_pow_two_of_testBit (n := 7) (un v) fun i hi => hb i hi
  · intro h
    apply Int64.toBitVec_inj.mp
    apply BitVec.eq_of_getLsbD_eq
    intro i hi
    rw [Int64.toBitVec_and, BitVec.getLsbD_and, own_m128 i hi]
    by_cases q : 7 ≤ i
    · have : v.toBitVec.getLsbD i = false := Nat.testBit_lt_two_pow (Nat.lt_of_lt_of_le h (Nat.pow_le_pow_right (n := 2) (by decide) q))
      rw [this]; exact BitVec.getLsbD_zero.symm
    · simp only [q, decide_false, Bool.and_false]; exact BitVec.getLsbD_zero.symm
theorem own_go {x : Int64} {N i : Nat} (h0 : 0 ≤ x.toInt) (h4 : N = 1 ∨ 2 ^ (7 * (N - 1)) ≤ x.toInt) (hi : i + 1 < N) (h9 : N ≤ 9) : own_v x i &&& -128 ≠ 0 := fun z => by
  have h := (own_hi _).mp z
  rw [own_vU] at h
  obtain ⟨e1, -⟩ := un_of_nonneg h0
  have h5 : 2 ^ (7 * (N - 1)) ≤ un x := by
    rcases h4 with h4 | h4
    · omega
    · have : ((2 ^ (7 * (N - 1)) : Nat) : Int) ≤ ((un x : Nat) : Int) := by rw [e1]; push_cast; exact h4
      exact Int.ofNat_le.mp this
  have h6 : 2 ^ (7 * (i + 1)) ≤ un x := Nat.le_trans (Nat.pow_le_pow_right (by decide) (by omega)) h5
  have h7 : un x < 2 ^ (7 * i) * 128 := by
    have := Nat.lt_mul_of_div_lt h (Nat.two_pow_pos _)
    rw [Nat.mul_comm]; exact this
  rw [show 2 ^ (7 * (i + 1)) = 2 ^ (7 * i) * 128 by rw [Nat.mul_add, Nat.pow_add]] at h6
  omega
theorem own_end {x : Int64} {N i : Nat} (h0 : 0 ≤ x.toInt) (h3 : x.toInt < 2 ^ (7 * N)) (hi : i + 1 = N) (h9 : N ≤ 9) : un (own_v x i) < 128 ∧ own_v x i &&& -128 = 0 := by
  have h : un (own_v x i) < 128 := by
    rw [own_vU]
    obtain ⟨e1, -⟩ := un_of_nonneg h0
    have h5 : un x < 2 ^ (7 * N) := by
      have : ((un x : Nat) : Int) < ((2 ^ (7 * N) : Nat) : Int) := by rw [e1]; push_cast; exact h3
      exact Int.ofNat_lt.mp this
    subst hi
    rw [show 2 ^ (7 * (i + 1)) = 2 ^ (7 * i) * 128 by rw [Nat.mul_add, Nat.pow_add]] at h5
    exact Nat.div_lt_of_lt_mul h5
  exact ⟨h, (own_hi _).mpr h⟩
theorem own_vl (x : Int64) {d : Nat} (hd : d ≤ 8) : own_v x d = lus x (7 * Int32.ofNat d) := un_inj (by rw [own_vU, own_sm d (by omega), un_lus x (by omega)])
theorem own_q (y : Int64) : ∃ q : Nat, q < 128 ∧ y &&& 127 = Int64.ofNat q := by
  refine ⟨un y % 128, Nat.mod_lt _ (by decide), un_inj ?_⟩
  rw [un_mask y 127 (k := 7) (by decide)]
  show _ = (Int64.ofNat (un y % 128)).toBitVec.toNat
  have : (Int64.ofNat (un y % 128)).toBitVec = BitVec.ofNat 64 (un y % 128) := rfl
  rw [this, BitVec.toNat_ofNat]; omega
theorem own_big : ∀ q : Nat, q < 128 → (Int64.ofNat q ||| 128).toInt32.toInt8.toInt32.toInt8.toInt32 = ((Int64.ofNat q).toInt32 ||| 128).toInt8.toInt32 ∧ (Int64.ofNat q).toInt32.toInt8.toInt32.toInt8.toInt32 = (Int64.ofNat q).toInt32.toInt8.toInt32 := by decide +kernel
theorem own_e1 {x : Int64} {N d : Nat} (hd : d + 1 < N) (h9 : N ≤ 9) : own_b N x d = ((lus x (7 * Int32.ofNat d) &&& 127).toInt32 ||| 128).toInt8.toInt32 := by
  rw [own_b1 hd, own_vl x (by omega)]
  obtain ⟨q, q1, q2⟩ := own_q (lus x (7 * Int32.ofNat d))
  rw [q2]; exact (own_big q q1).1
theorem own_e0 {x : Int64} {N d : Nat} (h0 : 0 ≤ x.toInt) (h3 : x.toInt < 2 ^ (7 * N)) (hd : d + 1 = N) (h9 : N ≤ 9) : own_b N x d = (lus x (7 * Int32.ofNat d) &&& 127).toInt32.toInt8.toInt32 := by
  have h := (own_end h0 h3 hd h9).1
  have e : own_v x d = own_v x d &&& 127 := un_inj (by rw [un_mask _ 127 (k := 7) (by decide)]; omega)
  rw [own_b0 (by omega), e, own_vl x (by omega)]
  obtain ⟨q, q1, q2⟩ := own_q (lus x (7 * Int32.ofNat d))
  rw [q2]; exact (own_big q q1).2
theorem own_idemB : ∀ b : BitVec 8, (Int8.ofBitVec b).toInt32.toInt8.toInt32 = (Int8.ofBitVec b).toInt32 := by decide +kernel
theorem own_idem (c : Int32) : c.toInt8.toInt32.toInt8.toInt32 = c.toInt8.toInt32 := own_idemB c.toInt8.toBitVec
theorem own_x (x : Int64) (s : Int32) : 0 ≤ (lus (x &&& 9223372036854775807) (s &&& 63)).toInt := by
  have e1 : (s &&& 63).toInt = s.toInt % 2 ^ 6 := Jvm.Kit.i32_mask s 63 (k := 6) (by decide) (by decide)
  obtain ⟨k, hk⟩ : ∃ k : Nat, (s &&& 63).toInt = k := ⟨(s &&& 63).toInt.toNat, by omega⟩
  have ek : (s &&& 63) = Int32.ofNat k := Int32.toInt_inj.mp (by rw [hk, own_i (by omega)])
  have hm : un (x &&& 9223372036854775807) = un x % 2 ^ 63 := un_mask x _ (k := 63) (by decide)
  have hl := un_lus (x &&& 9223372036854775807) (k := k) (by omega)
  have := Nat.div_le_self (un (x &&& 9223372036854775807)) (2 ^ k)
  rw [ek, toInt_of_un (by omega)]; omega
theorem own_at (a : Int32) : ∃ att : Nat, (a &&& 7) = Int32.ofNat att ∧ att ≤ 7 := by
  have e1 : (a &&& 7).toInt = a.toInt % 2 ^ 3 := Jvm.Kit.i32_mask a 7 (k := 3) (by decide) (by decide)
  exact ⟨(a &&& 7).toInt.toNat, own_of (by omega), by omega⟩
theorem own_kd {kk att : Nat} (h1 : kk < 20) (h2 : att ≤ 7) : (Int32.ofNat kk - Int32.ofNat att).toInt = (kk : Int) - att := by
  have e1 := own_i (i := kk) (by omega)
  have e2 := own_i (i := att) (by omega)
  rw [Jvm.Kit.i32_sub (by omega) (by omega), e1, e2]

theorem d1_0 : decode method_3_code 0 = .ok (.lload_n 0, 1) := by decide +kernel
theorem d1_1 : decode method_3_code 1 = .ok (.iload_n 2, 1) := by decide +kernel
theorem d1_2 : decode method_3_code 2 = .ok (.lushr, 1) := by decide +kernel
theorem d1_3 : decode method_3_code 3 = .ok (.lconst 0, 1) := by decide +kernel
theorem d1_4 : decode method_3_code 4 = .ok (.lcmp, 1) := by decide +kernel
theorem d1_5 : decode method_3_code 5 = .ok (.ifCond .eq 7, 3) := by decide +kernel
theorem d1_8 : decode method_3_code 8 = .ok (.iconst 1, 1) := by decide +kernel
theorem d1_9 : decode method_3_code 9 = .ok (.goto 4, 3) := by decide +kernel
theorem d1_12 : decode method_3_code 12 = .ok (.iconst 0, 1) := by decide +kernel
theorem d1_13 : decode method_3_code 13 = .ok (.ireturn, 1) := by decide +kernel
theorem pn_1 : plainName "com/example/partitioner/partitioner/engine/ByteWriterPutVarintPinLaw" = true := by first | (simp [plainName, overriddenIn]; done) | decide +kernel
theorem rm1_ef (m : MethodId) (x1 : Int64) (s1 : Int32) : entryFrame m #[(.long x1), (.int s1)] 3 = mkF m 0 #[.val (.long x1), .second, .val (.int s1)] [] := by first | (simp [entryFrame, mkF, argsToLocals, Value.category]; done) | rfl
abbrev rm1_Q (Z : State) (x1 : Int64) (s1 : Int32) (h0 : Heap) (n0 : Nat) : Option Value → Heap → Prop := fun v h => v = some (.int (own_more x1 s1)) ∧ h0 = h
set_option maxRecDepth 65536 in
set_option maxHeartbeats 40000000 in
theorem rm1 (l : Launch) (Z : State) (a0 : Array Value) (hw : ∀ d ∈ tables_1, d.before a0 Z = true) (ws : List Jvm.Cond) (x1 : Int64) (s1 : Int32) (h : Heap) (n0 : Nat) (hn0 : n0 ≤ h.size) :
    Ct l Z (⟨"com/example/partitioner/partitioner/engine/ByteWriterPutVarintPinLaw", "more", "(JI)I"⟩ : MethodName) method_3_code 3 (some .int) ws ({ frames := 0, cells := 0, slots := 0, locals := 0 } : Room) #[(.long x1), (.int s1)] h n0 (rm1_Q Z x1 s1 h n0) := by
  refine Ct.of (plainFor_of_name pn_1) hn0 (fun m => rm1_ef m x1 s1) ?_
  intro p e s m below meth c T0 X0
  replace X0 : Sn Z n0 method_3_code 3 "com/example/partitioner/partitioner/engine/ByteWriterPutVarintPinLaw" "more" (some .int) p l e ({ frames := 0, cells := 0, slots := 0, locals := 0 } : Room) s m #[(.long x1), (.int s1)] below meth c T0 h 0 0 := X0
  refine w_lloadN (pc' := 1) X0 d1_0 rfl rfl ?_
  refine w_iloadN (pc' := 2) X0 d1_1 rfl rfl ?_
  refine w_lushr (pc' := 3) X0 d1_2 rfl ?_
  refine w_lconst (pc' := 4) (z := (0 : Int64)) X0 d1_3 rfl rfl ?_
  refine w_lcif_eq (pc' := 5) (pc1 := 12) (pc2 := 8) X0 d1_4 d1_5 (by decide) (fun (hc5 : (lus x1 s1) = (0 : Int64)) => ?_) (fun (hc5 : (lus x1 s1) ≠ (0 : Int64)) => ?_)
  · refine w_iconst (pc' := 13) (z := (0 : Int32)) X0 d1_12 rfl rfl ?_
    exact w_ireturn X0 d1_13 rfl (⟨by simp [own_more, hc5], rfl⟩)
  · refine w_iconst (pc' := 9) (z := (1 : Int32)) X0 d1_8 rfl rfl ?_
    refine w_goto (pc' := 13) X0 d1_9 (by decide) ?_
    exact w_ireturn X0 d1_13 rfl (⟨by simp [own_more, hc5], rfl⟩)
theorem d2_0 : decode prog_21_method_11_code 0 = .ok (.iload_n 1, 1) := by decide +kernel
theorem d2_1 : decode prog_21_method_11_code 1 = .ok (.istore 4, 2) := by decide +kernel
theorem d2_3 : decode prog_21_method_11_code 3 = .ok (.lload_n 2, 1) := by decide +kernel
theorem d2_4 : decode prog_21_method_11_code 4 = .ok (.lstore 5, 2) := by decide +kernel
theorem d2_6 : decode prog_21_method_11_code 6 = .ok (.lload 5, 2) := by decide +kernel
theorem d2_8 : decode prog_21_method_11_code 8 = .ok (.ldc2_w 53, 3) := by decide +kernel
theorem d2_11 : decode prog_21_method_11_code 11 = .ok (.land, 1) := by decide +kernel
theorem d2_12 : decode prog_21_method_11_code 12 = .ok (.lconst 0, 1) := by decide +kernel
theorem d2_13 : decode prog_21_method_11_code 13 = .ok (.lcmp, 1) := by decide +kernel
theorem d2_14 : decode prog_21_method_11_code 14 = .ok (.ifCond .eq 32, 3) := by decide +kernel
theorem d2_17 : decode prog_21_method_11_code 17 = .ok (.aload_n 0, 1) := by decide +kernel
theorem d2_18 : decode prog_21_method_11_code 18 = .ok (.iload 4, 2) := by decide +kernel
theorem d2_20 : decode prog_21_method_11_code 20 = .ok (.iinc 4 1, 3) := by decide +kernel
theorem d2_23 : decode prog_21_method_11_code 23 = .ok (.lload 5, 2) := by decide +kernel
theorem d2_25 : decode prog_21_method_11_code 25 = .ok (.ldc2_w 55, 3) := by decide +kernel
theorem d2_28 : decode prog_21_method_11_code 28 = .ok (.land, 1) := by decide +kernel
theorem d2_29 : decode prog_21_method_11_code 29 = .ok (.ldc2_w 57, 3) := by decide +kernel
theorem d2_32 : decode prog_21_method_11_code 32 = .ok (.lor, 1) := by decide +kernel
theorem d2_33 : decode prog_21_method_11_code 33 = .ok (.l2i, 1) := by decide +kernel
theorem d2_34 : decode prog_21_method_11_code 34 = .ok (.i2b, 1) := by decide +kernel
theorem d2_35 : decode prog_21_method_11_code 35 = .ok (.bastore, 1) := by decide +kernel
theorem d2_36 : decode prog_21_method_11_code 36 = .ok (.lload 5, 2) := by decide +kernel
theorem d2_38 : decode prog_21_method_11_code 38 = .ok (.bipush 7, 2) := by decide +kernel
theorem d2_40 : decode prog_21_method_11_code 40 = .ok (.lushr, 1) := by decide +kernel
theorem d2_41 : decode prog_21_method_11_code 41 = .ok (.lstore 5, 2) := by decide +kernel
theorem d2_43 : decode prog_21_method_11_code 43 = .ok (.goto (-37), 3) := by decide +kernel
theorem d2_46 : decode prog_21_method_11_code 46 = .ok (.aload_n 0, 1) := by decide +kernel
theorem d2_47 : decode prog_21_method_11_code 47 = .ok (.iload 4, 2) := by decide +kernel
theorem d2_49 : decode prog_21_method_11_code 49 = .ok (.iinc 4 1, 3) := by decide +kernel
theorem d2_52 : decode prog_21_method_11_code 52 = .ok (.lload 5, 2) := by decide +kernel
theorem d2_54 : decode prog_21_method_11_code 54 = .ok (.l2i, 1) := by decide +kernel
theorem d2_55 : decode prog_21_method_11_code 55 = .ok (.i2b, 1) := by decide +kernel
theorem d2_56 : decode prog_21_method_11_code 56 = .ok (.bastore, 1) := by decide +kernel
theorem d2_57 : decode prog_21_method_11_code 57 = .ok (.iload 4, 2) := by decide +kernel
theorem d2_59 : decode prog_21_method_11_code 59 = .ok (.ireturn, 1) := by decide +kernel
theorem pn_2 : plainName "com/example/partitioner/partitioner/engine/ByteWriter" = true := by first | (simp [plainName, overriddenIn]; done) | decide +kernel
theorem rm2_ef (m : MethodId) (a : Addr) (at1 : Int32) (x1 : Int64) : entryFrame m #[(.ref a), (.int at1), (.long x1)] 7 = mkF m 0 #[.val (.ref a), .val (.int at1), .val (.long x1), .second, .unset, .unset, .unset] [] := by first | (simp [entryFrame, mkF, argsToLocals, Value.category]; done) | rfl
abbrev rm2_Q (Z : State) (a : Addr) (at1 : Int32) (x1 : Int64) (f : Nat → Value) (att N : Nat) (h0 : Heap) (n0 : Nat) : Option Value → Heap → Prop := fun v h => v = some (.int (Int32.ofNat (att + N))) ∧ Keep h0 h [a] ∧ AF Z h a .byte 20 (own_f f att N x1 N)
set_option maxRecDepth 65536 in
set_option maxHeartbeats 40000000 in
theorem rm2 (l : Launch) (Z : State) (a0 : Array Value) (hw : ∀ d ∈ tables_1, d.before a0 Z = true) (ws : List Jvm.Cond) (a : Addr) (at1 : Int32) (x1 : Int64) (f : Nat → Value) (att N : Nat) (h : Heap) (n0 : Nat) (hn0 : n0 ≤ h.size) (A1 : AF Z h a .byte 20 f) (hat : at1 = Int32.ofNat att) (hb : att ≤ 7 ∧ 1 ≤ N ∧ N ≤ 9) (hx : 0 ≤ x1.toInt) (hN3 : x1.toInt < 2 ^ (7 * N)) (hN4 : N = 1 ∨ 2 ^ (7 * (N - 1)) ≤ x1.toInt) (g0 : n0 ≤ a) :
    Ct l Z (⟨"com/example/partitioner/partitioner/engine/ByteWriter", "putVarint", "([BIJ)I"⟩ : MethodName) prog_21_method_11_code 7 (some .int) ws ({ frames := 0, cells := 0, slots := 0, locals := 0 } : Room) #[(.ref a), (.int at1), (.long x1)] h n0 (rm2_Q Z a at1 x1 f att N h n0) := by
  refine Ct.of (plainFor_of_name pn_2) hn0 (fun m => rm2_ef m a at1 x1) ?_
  intro p e s m below meth c T0 X0
  replace X0 : Sn Z n0 prog_21_method_11_code 7 "com/example/partitioner/partitioner/engine/ByteWriter" "putVarint" (some .int) p l e ({ frames := 0, cells := 0, slots := 0, locals := 0 } : Room) s m #[(.ref a), (.int at1), (.long x1)] below meth c T0 h 0 0 := X0
  subst hat
  have L6 : ∀ (k i : Nat) (T : State) (hh : Heap), i + 1 + k = N → Sn Z n0 prog_21_method_11_code 7 "com/example/partitioner/partitioner/engine/ByteWriter" "putVarint" (some .int) p l e ({ frames := 0, cells := 0, slots := 0, locals := 0 } : Room) s m #[(.ref a), (.int (Int32.ofNat att)), (.long x1)] below meth c T hh 0 0 → Keep h hh [a] → AF Z hh a .byte 20 (own_f f att N x1 i) → W p e below s ({ frames := 0, cells := 0, slots := 0, locals := 0 } : Room) n0 (rm2_Q Z a (Int32.ofNat att) x1 f att N h n0) (T.setTop (mkF m 6 #[.val (.ref a), .val (.int (Int32.ofNat att)), .val (.long x1), .second, .val (.int (Int32.ofNat (att + i))), .val (.long (own_v x1 i)), .second] [])) := by
    intro k
    induction k with
    | zero =>
      intro i T hh hi X Kh Fa
      refine w_lload (pc' := 8) X d2_6 rfl rfl ?_
      refine w_ldc2 (pc' := 11) (z := (-128 : Int64)) X d2_8 (hw _ (List.mem_of_getElem? (i := 10) rfl)) rfl ?_
      refine w_land (pc' := 12) X d2_11 rfl ?_
      refine w_lconst (pc' := 13) (z := (0 : Int64)) X d2_12 rfl rfl ?_
      refine w_lcif_eq (pc' := 14) (pc1 := 46) (pc2 := 17) X d2_13 d2_14 (by decide) (fun (hc14 : ((own_v x1 i) &&& (-128 : Int64)) = (0 : Int64)) => ?_) (fun (hc14 : ((own_v x1 i) &&& (-128 : Int64)) ≠ (0 : Int64)) => absurd (own_end hx hN3 (by omega) (by omega)).2 hc14)
      refine w_aloadN (pc' := 47) X d2_46 rfl rfl rfl ?_
      refine w_iload (pc' := 49) X d2_47 rfl rfl ?_
      refine w_iinc (pc' := 52) (z := (Int32.ofNat (att + (i + 1)))) (L' := #[.val (.ref a), .val (.int (Int32.ofNat att)), .val (.long x1), .second, .val (.int (Int32.ofNat (att + (i + 1)))), .val (.long (own_v x1 i)), .second]) X d2_49 rfl (own_addn (att + i) 1) rfl rfl ?_
      refine w_lload (pc' := 54) X d2_52 rfl rfl ?_
      refine w_l2i (pc' := 55) X d2_54 rfl ?_
      refine w_i2b (pc' := 56) X d2_55 rfl ?_
      refine w_bastoreB (pc' := 57) (i := (att + i)) X Fa d2_56 (own_i (by omega)) (by omega) rfl g0 (fun T1 h1 X1 W1 => ?_)
      have F1 := Fa.set W1
      have K1 := Kh.wr W1 (Or.inl (List.mem_of_getElem? (i := 0) rfl))
      refine w_iload (pc' := 59) X1 d2_57 rfl rfl ?_
      have hv := own_b0 (N := N) (x := x1) (i := i) (by omega)
      rw [← hv] at F1
      have Fz := F1.congr fun j _ => own_up f att N x1 i j
      obtain rfl : i + 1 = N := by omega
      exact w_ireturn X1 d2_59 rfl (⟨rfl, K1, Fz⟩)
    | succ k ih =>
      intro i T hh hi X Kh Fa
      refine w_lload (pc' := 8) X d2_6 rfl rfl ?_
      refine w_ldc2 (pc' := 11) (z := (-128 : Int64)) X d2_8 (hw _ (List.mem_of_getElem? (i := 10) rfl)) rfl ?_
      refine w_land (pc' := 12) X d2_11 rfl ?_
      refine w_lconst (pc' := 13) (z := (0 : Int64)) X d2_12 rfl rfl ?_
      refine w_lcif_eq (pc' := 14) (pc1 := 46) (pc2 := 17) X d2_13 d2_14 (by decide) (fun (hc14 : ((own_v x1 i) &&& (-128 : Int64)) = (0 : Int64)) => absurd hc14 (own_go hx hN4 (by omega) (by omega))) (fun (hc14 : ((own_v x1 i) &&& (-128 : Int64)) ≠ (0 : Int64)) => ?_)
      refine w_aloadN (pc' := 18) X d2_17 rfl rfl rfl ?_
      refine w_iload (pc' := 20) X d2_18 rfl rfl ?_
      refine w_iinc (pc' := 23) (z := (Int32.ofNat (att + (i + 1)))) (L' := #[.val (.ref a), .val (.int (Int32.ofNat att)), .val (.long x1), .second, .val (.int (Int32.ofNat (att + (i + 1)))), .val (.long (own_v x1 i)), .second]) X d2_20 rfl (own_addn (att + i) 1) rfl rfl ?_
      refine w_lload (pc' := 25) X d2_23 rfl rfl ?_
      refine w_ldc2 (pc' := 28) (z := (127 : Int64)) X d2_25 (hw _ (List.mem_of_getElem? (i := 15) rfl)) rfl ?_
      refine w_land (pc' := 29) X d2_28 rfl ?_
      refine w_ldc2 (pc' := 32) (z := (128 : Int64)) X d2_29 (hw _ (List.mem_of_getElem? (i := 16) rfl)) rfl ?_
      refine w_lor (pc' := 33) X d2_32 rfl ?_
      refine w_l2i (pc' := 34) X d2_33 rfl ?_
      refine w_i2b (pc' := 35) X d2_34 rfl ?_
      refine w_bastoreB (pc' := 36) (i := (att + i)) X Fa d2_35 (own_i (by omega)) (by omega) rfl g0 (fun T2 h2 X2 W2 => ?_)
      have F2 := Fa.set W2
      have K2 := Kh.wr W2 (Or.inl (List.mem_of_getElem? (i := 0) rfl))
      refine w_lload (pc' := 38) X2 d2_36 rfl rfl ?_
      refine w_bipush (pc' := 40) (z := (7 : Int32)) X2 d2_38 rfl rfl ?_
      refine w_lushr (pc' := 41) X2 d2_40 rfl ?_
      refine w_topJ (x' := (own_v x1 (i + 1))) (rfl) ?_
      refine w_lstore (pc' := 43) (L' := #[.val (.ref a), .val (.int (Int32.ofNat att)), .val (.long x1), .second, .val (.int (Int32.ofNat (att + (i + 1)))), .val (.long (own_v x1 (i + 1))), .second]) X2 d2_41 rfl rfl ?_
      refine w_goto (pc' := 6) X2 d2_43 (by decide) ?_
      have hv := own_b1 (N := N) (x := x1) (i := i) (by omega)
      rw [← hv] at F2
      exact ih (i + 1) _ _ (by omega) X2 K2 (F2.congr fun j _ => own_up f att N x1 i j)
  refine w_iloadN (pc' := 1) X0 d2_0 rfl rfl ?_
  refine w_istore (pc' := 3) (L' := #[.val (.ref a), .val (.int (Int32.ofNat att)), .val (.long x1), .second, .val (.int (Int32.ofNat att)), .unset, .unset]) X0 d2_1 rfl rfl ?_
  refine w_lloadN (pc' := 4) X0 d2_3 rfl rfl ?_
  refine w_lstore (pc' := 6) (L' := #[.val (.ref a), .val (.int (Int32.ofNat att)), .val (.long x1), .second, .val (.int (Int32.ofNat att)), .val (.long x1), .second]) X0 d2_4 rfl rfl ?_
  exact L6 (N - 1) 0 _ _ (by omega) X0 (Keep.refl h [a]) (A1.congr fun j _ => by unfold own_f; rw [if_neg (by omega)])
theorem d3_0 : decode method_4_code 0 = .ok (.iload_n 1, 1) := by decide +kernel
theorem d3_1 : decode method_4_code 1 = .ok (.iload_n 2, 1) := by decide +kernel
theorem d3_2 : decode method_4_code 2 = .ok (.isub, 1) := by decide +kernel
theorem d3_3 : decode method_4_code 3 = .ok (.istore 7, 2) := by decide +kernel
theorem d3_5 : decode method_4_code 5 = .ok (.iload 7, 2) := by decide +kernel
theorem d3_7 : decode method_4_code 7 = .ok (.ifCond .lt 9, 3) := by decide +kernel
theorem d3_10 : decode method_4_code 10 = .ok (.iload 7, 2) := by decide +kernel
theorem d3_12 : decode method_4_code 12 = .ok (.iload_n 3, 1) := by decide +kernel
theorem d3_13 : decode method_4_code 13 = .ok (.if_icmp .lt 17, 3) := by decide +kernel
theorem d3_16 : decode method_4_code 16 = .ok (.aload_n 0, 1) := by decide +kernel
theorem d3_17 : decode method_4_code 17 = .ok (.iload_n 1, 1) := by decide +kernel
theorem d3_18 : decode method_4_code 18 = .ok (.baload, 1) := by decide +kernel
theorem d3_19 : decode method_4_code 19 = .ok (.iload 6, 2) := by decide +kernel
theorem d3_21 : decode method_4_code 21 = .ok (.if_icmp .ne 7, 3) := by decide +kernel
theorem d3_24 : decode method_4_code 24 = .ok (.iconst 1, 1) := by decide +kernel
theorem d3_25 : decode method_4_code 25 = .ok (.goto 4, 3) := by decide +kernel
theorem d3_29 : decode method_4_code 29 = .ok (.ireturn, 1) := by decide +kernel
theorem d3_30 : decode method_4_code 30 = .ok (.lload 4, 2) := by decide +kernel
theorem d3_32 : decode method_4_code 32 = .ok (.bipush 7, 2) := by decide +kernel
theorem d3_34 : decode method_4_code 34 = .ok (.iload 7, 2) := by decide +kernel
theorem d3_36 : decode method_4_code 36 = .ok (.imul, 1) := by decide +kernel
theorem d3_37 : decode method_4_code 37 = .ok (.lushr, 1) := by decide +kernel
theorem d3_38 : decode method_4_code 38 = .ok (.ldc2_w 27, 3) := by decide +kernel
theorem d3_41 : decode method_4_code 41 = .ok (.land, 1) := by decide +kernel
theorem d3_42 : decode method_4_code 42 = .ok (.l2i, 1) := by decide +kernel
theorem d3_43 : decode method_4_code 43 = .ok (.istore 8, 2) := by decide +kernel
theorem d3_45 : decode method_4_code 45 = .ok (.iload 7, 2) := by decide +kernel
theorem d3_47 : decode method_4_code 47 = .ok (.iload_n 3, 1) := by decide +kernel
theorem d3_48 : decode method_4_code 48 = .ok (.iconst 1, 1) := by decide +kernel
theorem d3_49 : decode method_4_code 49 = .ok (.isub, 1) := by decide +kernel
theorem d3_50 : decode method_4_code 50 = .ok (.if_icmp .ge 11, 3) := by decide +kernel
theorem d3_53 : decode method_4_code 53 = .ok (.iload 8, 2) := by decide +kernel
theorem d3_55 : decode method_4_code 55 = .ok (.sipush 128, 3) := by decide +kernel
theorem d3_58 : decode method_4_code 58 = .ok (.ior, 1) := by decide +kernel
theorem d3_59 : decode method_4_code 59 = .ok (.istore 8, 2) := by decide +kernel
theorem d3_61 : decode method_4_code 61 = .ok (.aload_n 0, 1) := by decide +kernel
theorem d3_62 : decode method_4_code 62 = .ok (.iload_n 1, 1) := by decide +kernel
theorem d3_63 : decode method_4_code 63 = .ok (.baload, 1) := by decide +kernel
theorem d3_64 : decode method_4_code 64 = .ok (.iload 8, 2) := by decide +kernel
theorem d3_66 : decode method_4_code 66 = .ok (.i2b, 1) := by decide +kernel
theorem d3_67 : decode method_4_code 67 = .ok (.if_icmp .ne 7, 3) := by decide +kernel
theorem d3_70 : decode method_4_code 70 = .ok (.iconst 1, 1) := by decide +kernel
theorem d3_71 : decode method_4_code 71 = .ok (.goto 4, 3) := by decide +kernel
theorem d3_75 : decode method_4_code 75 = .ok (.ireturn, 1) := by decide +kernel
theorem rm3_ef (m : MethodId) (a : Addr) (k1 : Int32) (at1 : Int32) (n1 : Int32) (x1 : Int64) (sv : Int32) : entryFrame m #[(.ref a), (.int k1), (.int at1), (.int n1), (.long x1), (.int sv)] 9 = mkF m 0 #[.val (.ref a), .val (.int k1), .val (.int at1), .val (.int n1), .val (.long x1), .second, .val (.int sv), .unset, .unset] [] := by first | (simp [entryFrame, mkF, argsToLocals, Value.category]; done) | rfl
abbrev rm3_Q (Z : State) (a : Addr) (k1 : Int32) (at1 : Int32) (n1 : Int32) (x1 : Int64) (sv : Int32) (att N kk : Nat) (h0 : Heap) (n0 : Nat) : Option Value → Heap → Prop := fun v h => v = some (.int 1) ∧ h0 = h
set_option maxRecDepth 65536 in
set_option maxHeartbeats 40000000 in
theorem rm3 (l : Launch) (Z : State) (a0 : Array Value) (hw : ∀ d ∈ tables_1, d.before a0 Z = true) (ws : List Jvm.Cond) (a : Addr) (k1 : Int32) (at1 : Int32) (n1 : Int32) (x1 : Int64) (sv : Int32) (att N kk : Nat) (h : Heap) (n0 : Nat) (hn0 : n0 ≤ h.size) (A1 : AF Z h a .byte 20 (own_f (fun _ => .int sv) att N x1 N)) (hk : k1 = Int32.ofNat kk) (hat : at1 = Int32.ofNat att) (hn : n1 = Int32.ofNat N) (hb : kk < 20 ∧ att ≤ 7 ∧ 1 ≤ N ∧ N ≤ 9) (hx : 0 ≤ x1.toInt) (hN3 : x1.toInt < 2 ^ (7 * N)) :
    Ct l Z (⟨"com/example/partitioner/partitioner/engine/ByteWriterPutVarintPinLaw", "same", "([BIIIJB)Z"⟩ : MethodName) method_4_code 9 (some .boolean) ws ({ frames := 0, cells := 0, slots := 0, locals := 0 } : Room) #[(.ref a), (.int k1), (.int at1), (.int n1), (.long x1), (.int sv)] h n0 (rm3_Q Z a k1 at1 n1 x1 sv att N kk h n0) := by
  refine Ct.of (plainFor_of_name pn_1) hn0 (fun m => rm3_ef m a k1 at1 n1 x1 sv) ?_
  intro p e s m below meth c T0 X0
  replace X0 : Sn Z n0 method_4_code 9 "com/example/partitioner/partitioner/engine/ByteWriterPutVarintPinLaw" "same" (some .boolean) p l e ({ frames := 0, cells := 0, slots := 0, locals := 0 } : Room) s m #[(.ref a), (.int k1), (.int at1), (.int n1), (.long x1), (.int sv)] below meth c T0 h 0 0 := X0
  subst hk hat hn
  have ek : (Int32.ofNat kk).toInt = kk := own_i (by omega)
  have en : (Int32.ofNat N).toInt = N := own_i (by omega)
  have em := own_subn hb.2.2.1 hb.2.2.2
  refine w_iloadN (pc' := 1) X0 d3_0 rfl rfl ?_
  refine w_iloadN (pc' := 2) X0 d3_1 rfl rfl ?_
  refine w_isub (pc' := 3) X0 d3_2 rfl ?_
  have hd := own_kd hb.1 hb.2.1
  obtain ⟨kd, ekd⟩ : ∃ z : Int32, z = ((Int32.ofNat kk) - (Int32.ofNat att)) := ⟨_, rfl⟩
  refine w_topI ekd.symm ?_
  rw [← ekd] at hd
  refine w_istore (pc' := 5) (L' := #[.val (.ref a), .val (.int (Int32.ofNat kk)), .val (.int (Int32.ofNat att)), .val (.int (Int32.ofNat N)), .val (.long x1), .second, .val (.int sv), .val (.int kd), .unset]) X0 d3_3 rfl rfl ?_
  refine w_iload (pc' := 7) X0 d3_5 rfl rfl ?_
  refine w_if_lt (pc1 := 16) (pc2 := 10) X0 d3_7 (by decide) (fun (hc7 : kd.toInt < (0 : Int)) => ?_) (fun (hc7 : kd.toInt ≥ (0 : Int)) => ?_)
  · refine w_aloadN (pc' := 17) X0 d3_16 rfl rfl rfl ?_
    refine w_iloadN (pc' := 18) X0 d3_17 rfl rfl ?_
    refine w_baloadB (pc' := 19) (i := kk) (v := (.int sv)) X0 A1 d3_18 ek (by omega) (by unfold own_f; rw [if_neg (by omega)]) rfl ?_
    refine w_iload (pc' := 21) X0 d3_19 rfl rfl ?_
    refine w_icmp_ne (pc1 := 28) (pc2 := 24) X0 d3_21 (by decide) (fun (hc21 : sv ≠ sv) => absurd rfl hc21) (fun (hc21 : sv = sv) => ?_)
    refine w_iconst (pc' := 25) (z := (1 : Int32)) X0 d3_24 rfl rfl ?_
    refine w_goto (pc' := 29) X0 d3_25 (by decide) ?_
    exact w_nreturn (t := .boolean) X0 d3_29 rfl (by simp) (⟨rfl, rfl⟩)
  · refine w_iload (pc' := 12) X0 d3_10 rfl rfl ?_
    refine w_iloadN (pc' := 13) X0 d3_12 rfl rfl ?_
    refine w_icmp_lt (pc1 := 30) (pc2 := 16) X0 d3_13 (by decide) (fun (hc13 : kd.toInt < (Int32.ofNat N).toInt) => ?_) (fun (hc13 : kd.toInt ≥ (Int32.ofNat N).toInt) => ?_)
    · obtain rfl : kd = Int32.ofNat (kk - att) := own_of (by omega)
      refine w_lload (pc' := 32) X0 d3_30 rfl rfl ?_
      refine w_bipush (pc' := 34) (z := (7 : Int32)) X0 d3_32 rfl rfl ?_
      refine w_iload (pc' := 36) X0 d3_34 rfl rfl ?_
      refine w_imul (pc' := 37) X0 d3_36 rfl ?_
      refine w_lushr (pc' := 38) X0 d3_37 rfl ?_
      refine w_ldc2 (pc' := 41) (z := (127 : Int64)) X0 d3_38 (hw _ (List.mem_of_getElem? (i := 14) rfl)) rfl ?_
      refine w_land (pc' := 42) X0 d3_41 rfl ?_
      refine w_l2i (pc' := 43) X0 d3_42 rfl ?_
      refine w_istore (pc' := 45) (L' := #[.val (.ref a), .val (.int (Int32.ofNat kk)), .val (.int (Int32.ofNat att)), .val (.int (Int32.ofNat N)), .val (.long x1), .second, .val (.int sv), .val (.int (Int32.ofNat (kk - att))), .val (.int ((lus x1 ((7 : Int32) * (Int32.ofNat (kk - att)))) &&& (127 : Int64)).toInt32)]) X0 d3_43 rfl rfl ?_
      refine w_iload (pc' := 47) X0 d3_45 rfl rfl ?_
      refine w_iloadN (pc' := 48) X0 d3_47 rfl rfl ?_
      refine w_iconst (pc' := 49) (z := (1 : Int32)) X0 d3_48 rfl rfl ?_
      refine w_isub (pc' := 50) X0 d3_49 rfl ?_
      refine w_icmp_ge (pc1 := 61) (pc2 := 53) X0 d3_50 (by decide) (fun (hc50 : (Int32.ofNat (kk - att)).toInt ≥ ((Int32.ofNat N) - (1 : Int32)).toInt) => ?_) (fun (hc50 : (Int32.ofNat (kk - att)).toInt < ((Int32.ofNat N) - (1 : Int32)).toInt) => ?_)
      · refine w_aloadN (pc' := 62) X0 d3_61 rfl rfl rfl ?_
        refine w_iloadN (pc' := 63) X0 d3_62 rfl rfl ?_
        refine w_baloadB (pc' := 64) (i := kk) (v := (.int (own_b N x1 (kk - att)))) X0 A1 d3_63 ek (by omega) (by unfold own_f; rw [if_pos (by omega)]) rfl ?_
        refine w_iload (pc' := 66) X0 d3_64 rfl rfl ?_
        refine w_i2b (pc' := 67) X0 d3_66 rfl ?_
        refine w_icmp_ne (pc1 := 74) (pc2 := 70) X0 d3_67 (by decide) (fun (hc67 : (own_b N x1 (kk - att)) ≠ ((lus x1 ((7 : Int32) * (Int32.ofNat (kk - att)))) &&& (127 : Int64)).toInt32.toInt8.toInt32) => absurd (own_e0 hx hN3 (by omega) (by omega)) hc67) (fun (hc67 : (own_b N x1 (kk - att)) = ((lus x1 ((7 : Int32) * (Int32.ofNat (kk - att)))) &&& (127 : Int64)).toInt32.toInt8.toInt32) => ?_)
        refine w_iconst (pc' := 71) (z := (1 : Int32)) X0 d3_70 rfl rfl ?_
        refine w_goto (pc' := 75) X0 d3_71 (by decide) ?_
        exact w_nreturn (t := .boolean) X0 d3_75 rfl (by simp) (⟨rfl, rfl⟩)
      · refine w_iload (pc' := 55) X0 d3_53 rfl rfl ?_
        refine w_sipush (pc' := 58) (z := (128 : Int32)) X0 d3_55 rfl rfl ?_
        refine w_ior (pc' := 59) X0 d3_58 rfl ?_
        refine w_istore (pc' := 61) (L' := #[.val (.ref a), .val (.int (Int32.ofNat kk)), .val (.int (Int32.ofNat att)), .val (.int (Int32.ofNat N)), .val (.long x1), .second, .val (.int sv), .val (.int (Int32.ofNat (kk - att))), .val (.int (((lus x1 ((7 : Int32) * (Int32.ofNat (kk - att)))) &&& (127 : Int64)).toInt32 ||| (128 : Int32)))]) X0 d3_59 rfl rfl ?_
        refine w_aloadN (pc' := 62) X0 d3_61 rfl rfl rfl ?_
        refine w_iloadN (pc' := 63) X0 d3_62 rfl rfl ?_
        refine w_baloadB (pc' := 64) (i := kk) (v := (.int (own_b N x1 (kk - att)))) X0 A1 d3_63 ek (by omega) (by unfold own_f; rw [if_pos (by omega)]) rfl ?_
        refine w_iload (pc' := 66) X0 d3_64 rfl rfl ?_
        refine w_i2b (pc' := 67) X0 d3_66 rfl ?_
        refine w_icmp_ne (pc1 := 74) (pc2 := 70) X0 d3_67 (by decide) (fun (hc67 : (own_b N x1 (kk - att)) ≠ (((lus x1 ((7 : Int32) * (Int32.ofNat (kk - att)))) &&& (127 : Int64)).toInt32 ||| (128 : Int32)).toInt8.toInt32) => absurd (own_e1 (by omega) (by omega)) hc67) (fun (hc67 : (own_b N x1 (kk - att)) = (((lus x1 ((7 : Int32) * (Int32.ofNat (kk - att)))) &&& (127 : Int64)).toInt32 ||| (128 : Int32)).toInt8.toInt32) => ?_)
        refine w_iconst (pc' := 71) (z := (1 : Int32)) X0 d3_70 rfl rfl ?_
        refine w_goto (pc' := 75) X0 d3_71 (by decide) ?_
        exact w_nreturn (t := .boolean) X0 d3_75 rfl (by simp) (⟨rfl, rfl⟩)
    · refine w_aloadN (pc' := 17) X0 d3_16 rfl rfl rfl ?_
      refine w_iloadN (pc' := 18) X0 d3_17 rfl rfl ?_
      refine w_baloadB (pc' := 19) (i := kk) (v := (.int sv)) X0 A1 d3_18 ek (by omega) (by unfold own_f; rw [if_neg (by omega)]) rfl ?_
      refine w_iload (pc' := 21) X0 d3_19 rfl rfl ?_
      refine w_icmp_ne (pc1 := 28) (pc2 := 24) X0 d3_21 (by decide) (fun (hc21 : sv ≠ sv) => absurd rfl hc21) (fun (hc21 : sv = sv) => ?_)
      refine w_iconst (pc' := 25) (z := (1 : Int32)) X0 d3_24 rfl rfl ?_
      refine w_goto (pc' := 29) X0 d3_25 (by decide) ?_
      exact w_nreturn (t := .boolean) X0 d3_29 rfl (by simp) (⟨rfl, rfl⟩)
theorem pd_91 : parseMethodDescriptor "(JI)I" = some ⟨[.long, .int], some .int⟩ := by decide +kernel
theorem pd_92 : parseMethodDescriptor "([BIJ)I" = some ⟨[(.array .byte), .int, .long], some .int⟩ := by decide +kernel
theorem pd_93 : parseMethodDescriptor "([BIIIJB)Z" = some ⟨[(.array .byte), .int, .int, .int, .long, .byte], some .boolean⟩ := by decide +kernel
theorem rm0_ef (m : MethodId) (x0 : Int64) (s0 : Int32) (a1 : Int32) (c1 : Int32) : entryFrame m #[(.long x0), (.int s0), (.int a1), (.int c1)] 13 = mkF m 0 #[.val (.long x0), .second, .val (.int s0), .val (.int a1), .val (.int c1), .unset, .unset, .unset, .unset, .unset, .unset, .unset, .unset] [] := by first | (simp [entryFrame, mkF, argsToLocals, Value.category]; done) | rfl
abbrev rm0_Q (Z : State) (x0 : Int64) (s0 : Int32) (a1 : Int32) (c1 : Int32) (h0 : Heap) (n0 : Nat) : Option Value → Heap → Prop := fun v h => v = some (.int 1)
set_option maxRecDepth 65536 in
set_option maxHeartbeats 40000000 in
theorem rm0 (l : Launch) (Z : State) (a0 : Array Value) (hw : ∀ d ∈ tables_1, d.before a0 Z = true) (ws : List Jvm.Cond) (x0 : Int64) (s0 : Int32) (a1 : Int32) (c1 : Int32) (h : Heap) (n0 : Nat) (hn0 : n0 ≤ h.size) :
    Ct l Z x code maxLocals ret ws room_1 #[(.long x0), (.int s0), (.int a1), (.int c1)] h n0 (rm0_Q Z x0 s0 a1 c1 h n0) := by
  refine Ct.of (plainFor_of_name pn_1) hn0 (fun m => rm0_ef m x0 s0 a1 c1) ?_
  intro p e s m below meth c T0 X0
  replace X0 : Sn Z n0 code 13 "com/example/partitioner/partitioner/engine/ByteWriterPutVarintPinLaw" "law" (some .boolean) p l e room_1 s m #[(.long x0), (.int s0), (.int a1), (.int c1)] below meth c T0 h 0 0 := X0
  refine w_lloadN (pc' := 1) X0 at_0 rfl rfl ?_
  refine w_ldc2 (pc' := 4) (z := (9223372036854775807 : Int64)) X0 at_1 (hw _ (List.mem_of_getElem? (i := 0) rfl)) rfl ?_
  refine w_land (pc' := 5) X0 at_4 rfl ?_
  refine w_iloadN (pc' := 6) X0 at_5 rfl rfl ?_
  refine w_bipush (pc' := 8) (z := (63 : Int32)) X0 at_6 rfl rfl ?_
  refine w_iand (pc' := 9) X0 at_8 rfl ?_
  refine w_lushr (pc' := 10) X0 at_9 rfl ?_
  have hx0 := own_x x0 s0
  obtain ⟨xv, exv⟩ : ∃ z : Int64, z = (lus (x0 &&& (9223372036854775807 : Int64)) (s0 &&& (63 : Int32))) := ⟨_, rfl⟩
  refine w_topJ exv.symm ?_
  rw [← exv] at hx0
  refine w_lstore (pc' := 12) (L' := #[.val (.long x0), .second, .val (.int s0), .val (.int a1), .val (.int c1), .val (.long xv), .second, .unset, .unset, .unset, .unset, .unset, .unset]) X0 at_10 rfl rfl ?_
  refine w_iloadN (pc' := 13) X0 at_12 rfl rfl ?_
  refine w_bipush (pc' := 15) (z := (7 : Int32)) X0 at_13 rfl rfl ?_
  refine w_iand (pc' := 16) X0 at_15 rfl ?_
  obtain ⟨att, eat, hat⟩ := own_at a1
  refine w_topI (x' := (Int32.ofNat att)) (eat) ?_
  refine w_istore (pc' := 18) (L' := #[.val (.long x0), .second, .val (.int s0), .val (.int a1), .val (.int c1), .val (.long xv), .second, .val (.int (Int32.ofNat att)), .unset, .unset, .unset, .unset, .unset]) X0 at_16 rfl rfl ?_
  refine w_iload (pc' := 20) X0 at_18 rfl rfl ?_
  refine w_i2b (pc' := 21) X0 at_20 rfl ?_
  have hsv := own_idem c1
  obtain ⟨sv, esv⟩ : ∃ z : Int32, z = c1.toInt8.toInt32 := ⟨_, rfl⟩
  refine w_topI esv.symm ?_
  rw [← esv] at hsv
  refine w_istore (pc' := 23) (L' := #[.val (.long x0), .second, .val (.int s0), .val (.int a1), .val (.int c1), .val (.long xv), .second, .val (.int (Int32.ofNat att)), .val (.int sv), .unset, .unset, .unset, .unset]) X0 at_21 rfl rfl ?_
  refine w_bipush (pc' := 25) (z := (20 : Int32)) X0 at_23 rfl rfl ?_
  refine w_newarray (pc' := 27) (n := 20) (cap := 20) X0 at_25 (hw _ (List.mem_of_getElem? (i := 1) rfl)) rfl (by decide) (by decide) (fun T1 h1 b1 X1 E1 q1 g1 F1 => ?_)
  refine w_dup (pc' := 28) X1 at_27 rfl rfl ?_
  refine w_iconst (pc' := 29) (z := (0 : Int32)) X1 at_28 rfl rfl ?_
  refine w_iload (pc' := 31) X1 at_29 rfl rfl ?_
  refine w_bastoreB (pc' := 32) (i := 0) X1 F1 at_31 rfl (by decide) rfl g1 (fun T2 h2 X2 W2 => ?_)
  have F2 := F1.set W2
  refine w_dup (pc' := 33) X2 at_32 rfl rfl ?_
  refine w_iconst (pc' := 34) (z := (1 : Int32)) X2 at_33 rfl rfl ?_
  refine w_iload (pc' := 36) X2 at_34 rfl rfl ?_
  refine w_bastoreB (pc' := 37) (i := 1) X2 F2 at_36 rfl (by decide) rfl g1 (fun T3 h3 X3 W3 => ?_)
  have F3 := F2.set W3
  refine w_dup (pc' := 38) X3 at_37 rfl rfl ?_
  refine w_iconst (pc' := 39) (z := (2 : Int32)) X3 at_38 rfl rfl ?_
  refine w_iload (pc' := 41) X3 at_39 rfl rfl ?_
  refine w_bastoreB (pc' := 42) (i := 2) X3 F3 at_41 rfl (by decide) rfl g1 (fun T4 h4 X4 W4 => ?_)
  have F4 := F3.set W4
  refine w_dup (pc' := 43) X4 at_42 rfl rfl ?_
  refine w_iconst (pc' := 44) (z := (3 : Int32)) X4 at_43 rfl rfl ?_
  refine w_iload (pc' := 46) X4 at_44 rfl rfl ?_
  refine w_bastoreB (pc' := 47) (i := 3) X4 F4 at_46 rfl (by decide) rfl g1 (fun T5 h5 X5 W5 => ?_)
  have F5 := F4.set W5
  refine w_dup (pc' := 48) X5 at_47 rfl rfl ?_
  refine w_iconst (pc' := 49) (z := (4 : Int32)) X5 at_48 rfl rfl ?_
  refine w_iload (pc' := 51) X5 at_49 rfl rfl ?_
  refine w_bastoreB (pc' := 52) (i := 4) X5 F5 at_51 rfl (by decide) rfl g1 (fun T6 h6 X6 W6 => ?_)
  have F6 := F5.set W6
  refine w_dup (pc' := 53) X6 at_52 rfl rfl ?_
  refine w_iconst (pc' := 54) (z := (5 : Int32)) X6 at_53 rfl rfl ?_
  refine w_iload (pc' := 56) X6 at_54 rfl rfl ?_
  refine w_bastoreB (pc' := 57) (i := 5) X6 F6 at_56 rfl (by decide) rfl g1 (fun T7 h7 X7 W7 => ?_)
  have F7 := F6.set W7
  refine w_dup (pc' := 58) X7 at_57 rfl rfl ?_
  refine w_bipush (pc' := 60) (z := (6 : Int32)) X7 at_58 rfl rfl ?_
  refine w_iload (pc' := 62) X7 at_60 rfl rfl ?_
  refine w_bastoreB (pc' := 63) (i := 6) X7 F7 at_62 rfl (by decide) rfl g1 (fun T8 h8 X8 W8 => ?_)
  have F8 := F7.set W8
  refine w_dup (pc' := 64) X8 at_63 rfl rfl ?_
  refine w_bipush (pc' := 66) (z := (7 : Int32)) X8 at_64 rfl rfl ?_
  refine w_iload (pc' := 68) X8 at_66 rfl rfl ?_
  refine w_bastoreB (pc' := 69) (i := 7) X8 F8 at_68 rfl (by decide) rfl g1 (fun T9 h9 X9 W9 => ?_)
  have F9 := F8.set W9
  refine w_dup (pc' := 70) X9 at_69 rfl rfl ?_
  refine w_bipush (pc' := 72) (z := (8 : Int32)) X9 at_70 rfl rfl ?_
  refine w_iload (pc' := 74) X9 at_72 rfl rfl ?_
  refine w_bastoreB (pc' := 75) (i := 8) X9 F9 at_74 rfl (by decide) rfl g1 (fun T10 h10 X10 W10 => ?_)
  have F10 := F9.set W10
  refine w_dup (pc' := 76) X10 at_75 rfl rfl ?_
  refine w_bipush (pc' := 78) (z := (9 : Int32)) X10 at_76 rfl rfl ?_
  refine w_iload (pc' := 80) X10 at_78 rfl rfl ?_
  refine w_bastoreB (pc' := 81) (i := 9) X10 F10 at_80 rfl (by decide) rfl g1 (fun T11 h11 X11 W11 => ?_)
  have F11 := F10.set W11
  refine w_dup (pc' := 82) X11 at_81 rfl rfl ?_
  refine w_bipush (pc' := 84) (z := (10 : Int32)) X11 at_82 rfl rfl ?_
  refine w_iload (pc' := 86) X11 at_84 rfl rfl ?_
  refine w_bastoreB (pc' := 87) (i := 10) X11 F11 at_86 rfl (by decide) rfl g1 (fun T12 h12 X12 W12 => ?_)
  have F12 := F11.set W12
  refine w_dup (pc' := 88) X12 at_87 rfl rfl ?_
  refine w_bipush (pc' := 90) (z := (11 : Int32)) X12 at_88 rfl rfl ?_
  refine w_iload (pc' := 92) X12 at_90 rfl rfl ?_
  refine w_bastoreB (pc' := 93) (i := 11) X12 F12 at_92 rfl (by decide) rfl g1 (fun T13 h13 X13 W13 => ?_)
  have F13 := F12.set W13
  refine w_dup (pc' := 94) X13 at_93 rfl rfl ?_
  refine w_bipush (pc' := 96) (z := (12 : Int32)) X13 at_94 rfl rfl ?_
  refine w_iload (pc' := 98) X13 at_96 rfl rfl ?_
  refine w_bastoreB (pc' := 99) (i := 12) X13 F13 at_98 rfl (by decide) rfl g1 (fun T14 h14 X14 W14 => ?_)
  have F14 := F13.set W14
  refine w_dup (pc' := 100) X14 at_99 rfl rfl ?_
  refine w_bipush (pc' := 102) (z := (13 : Int32)) X14 at_100 rfl rfl ?_
  refine w_iload (pc' := 104) X14 at_102 rfl rfl ?_
  refine w_bastoreB (pc' := 105) (i := 13) X14 F14 at_104 rfl (by decide) rfl g1 (fun T15 h15 X15 W15 => ?_)
  have F15 := F14.set W15
  refine w_dup (pc' := 106) X15 at_105 rfl rfl ?_
  refine w_bipush (pc' := 108) (z := (14 : Int32)) X15 at_106 rfl rfl ?_
  refine w_iload (pc' := 110) X15 at_108 rfl rfl ?_
  refine w_bastoreB (pc' := 111) (i := 14) X15 F15 at_110 rfl (by decide) rfl g1 (fun T16 h16 X16 W16 => ?_)
  have F16 := F15.set W16
  refine w_dup (pc' := 112) X16 at_111 rfl rfl ?_
  refine w_bipush (pc' := 114) (z := (15 : Int32)) X16 at_112 rfl rfl ?_
  refine w_iload (pc' := 116) X16 at_114 rfl rfl ?_
  refine w_bastoreB (pc' := 117) (i := 15) X16 F16 at_116 rfl (by decide) rfl g1 (fun T17 h17 X17 W17 => ?_)
  have F17 := F16.set W17
  refine w_dup (pc' := 118) X17 at_117 rfl rfl ?_
  refine w_bipush (pc' := 120) (z := (16 : Int32)) X17 at_118 rfl rfl ?_
  refine w_iload (pc' := 122) X17 at_120 rfl rfl ?_
  refine w_bastoreB (pc' := 123) (i := 16) X17 F17 at_122 rfl (by decide) rfl g1 (fun T18 h18 X18 W18 => ?_)
  have F18 := F17.set W18
  refine w_dup (pc' := 124) X18 at_123 rfl rfl ?_
  refine w_bipush (pc' := 126) (z := (17 : Int32)) X18 at_124 rfl rfl ?_
  refine w_iload (pc' := 128) X18 at_126 rfl rfl ?_
  refine w_bastoreB (pc' := 129) (i := 17) X18 F18 at_128 rfl (by decide) rfl g1 (fun T19 h19 X19 W19 => ?_)
  have F19 := F18.set W19
  refine w_dup (pc' := 130) X19 at_129 rfl rfl ?_
  refine w_bipush (pc' := 132) (z := (18 : Int32)) X19 at_130 rfl rfl ?_
  refine w_iload (pc' := 134) X19 at_132 rfl rfl ?_
  refine w_bastoreB (pc' := 135) (i := 18) X19 F19 at_134 rfl (by decide) rfl g1 (fun T20 h20 X20 W20 => ?_)
  have F20 := F19.set W20
  refine w_dup (pc' := 136) X20 at_135 rfl rfl ?_
  refine w_bipush (pc' := 138) (z := (19 : Int32)) X20 at_136 rfl rfl ?_
  refine w_iload (pc' := 140) X20 at_138 rfl rfl ?_
  refine w_bastoreB (pc' := 141) (i := 19) X20 F20 at_140 rfl (by decide) rfl g1 (fun T21 h21 X21 W21 => ?_)
  have F21 := F20.set W21
  have Fq := F21.congr (g := fun _ => .int sv) (by
    intro j hj
    match j, hj with
    | 0, _ => exact congrArg Value.int hsv
    | 1, _ => exact congrArg Value.int hsv
    | 2, _ => exact congrArg Value.int hsv
    | 3, _ => exact congrArg Value.int hsv
    | 4, _ => exact congrArg Value.int hsv
    | 5, _ => exact congrArg Value.int hsv
    | 6, _ => exact congrArg Value.int hsv
    | 7, _ => exact congrArg Value.int hsv
    | 8, _ => exact congrArg Value.int hsv
    | 9, _ => exact congrArg Value.int hsv
    | 10, _ => exact congrArg Value.int hsv
    | 11, _ => exact congrArg Value.int hsv
    | 12, _ => exact congrArg Value.int hsv
    | 13, _ => exact congrArg Value.int hsv
    | 14, _ => exact congrArg Value.int hsv
    | 15, _ => exact congrArg Value.int hsv
    | 16, _ => exact congrArg Value.int hsv
    | 17, _ => exact congrArg Value.int hsv
    | 18, _ => exact congrArg Value.int hsv
    | 19, _ => exact congrArg Value.int hsv
    | _ + 20, hj => exact absurd hj (by omega))
  refine w_astore (pc' := 143) (L' := #[.val (.long x0), .second, .val (.int s0), .val (.int a1), .val (.int c1), .val (.long xv), .second, .val (.int (Int32.ofNat att)), .val (.int sv), .val (.ref b1), .unset, .unset, .unset]) X21 at_141 rfl rfl rfl ?_
  refine w_iconst (pc' := 144) (z := (1 : Int32)) X21 at_143 rfl rfl ?_
  refine w_lload (pc' := 146) X21 at_144 rfl rfl ?_
  refine w_bipush (pc' := 148) (z := (7 : Int32)) X21 at_146 rfl rfl ?_
  refine w_callS (pc' := 151) (wd := 1) (argsL := [(.long xv), (.int (7 : Int32))]) (rest := [(.int (1 : Int32))]) (Q2 := (rm1_Q Z xv (7 : Int32) h21 n0)) X21 at_148 (hw _ (List.mem_of_getElem? (i := 2) rfl)) (hw _ (List.mem_of_getElem? (i := 3) rfl)) (hw _ (List.mem_of_getElem? (i := 4) rfl)) (hw _ (List.mem_of_getElem? (i := 5) rfl)) (by decide) (rm1 l Z a0 hw [] xv (7 : Int32) h21 n0 X21.size) pd_91 rfl rfl rfl (Nat.le_of_eq rfl) (by decide) (fun v22 T22 h22 X22 q22 => ?_)
  obtain ⟨rfl, rfl⟩ := q22
  refine w_iadd (pc' := 152) X22 at_151 rfl ?_
  refine w_lload (pc' := 154) X22 at_152 rfl rfl ?_
  refine w_bipush (pc' := 156) (z := (14 : Int32)) X22 at_154 rfl rfl ?_
  refine w_callS (pc' := 159) (wd := 1) (argsL := [(.long xv), (.int (14 : Int32))]) (rest := [(.int ((1 : Int32) + (own_more xv (7 : Int32))))]) (Q2 := (rm1_Q Z xv (14 : Int32) h21 n0)) X22 at_156 (hw _ (List.mem_of_getElem? (i := 2) rfl)) (hw _ (List.mem_of_getElem? (i := 3) rfl)) (hw _ (List.mem_of_getElem? (i := 4) rfl)) (hw _ (List.mem_of_getElem? (i := 5) rfl)) (by decide) (rm1 l Z a0 hw [] xv (14 : Int32) h21 n0 X22.size) pd_91 rfl rfl rfl (Nat.le_of_eq rfl) (by decide) (fun v23 T23 h23 X23 q23 => ?_)
  obtain ⟨rfl, rfl⟩ := q23
  refine w_iadd (pc' := 160) X23 at_159 rfl ?_
  refine w_lload (pc' := 162) X23 at_160 rfl rfl ?_
  refine w_bipush (pc' := 164) (z := (21 : Int32)) X23 at_162 rfl rfl ?_
  refine w_callS (pc' := 167) (wd := 1) (argsL := [(.long xv), (.int (21 : Int32))]) (rest := [(.int (((1 : Int32) + (own_more xv (7 : Int32))) + (own_more xv (14 : Int32))))]) (Q2 := (rm1_Q Z xv (21 : Int32) h21 n0)) X23 at_164 (hw _ (List.mem_of_getElem? (i := 2) rfl)) (hw _ (List.mem_of_getElem? (i := 3) rfl)) (hw _ (List.mem_of_getElem? (i := 4) rfl)) (hw _ (List.mem_of_getElem? (i := 5) rfl)) (by decide) (rm1 l Z a0 hw [] xv (21 : Int32) h21 n0 X23.size) pd_91 rfl rfl rfl (Nat.le_of_eq rfl) (by decide) (fun v24 T24 h24 X24 q24 => ?_)
  obtain ⟨rfl, rfl⟩ := q24
  refine w_iadd (pc' := 168) X24 at_167 rfl ?_
  refine w_lload (pc' := 170) X24 at_168 rfl rfl ?_
  refine w_bipush (pc' := 172) (z := (28 : Int32)) X24 at_170 rfl rfl ?_
  refine w_callS (pc' := 175) (wd := 1) (argsL := [(.long xv), (.int (28 : Int32))]) (rest := [(.int ((((1 : Int32) + (own_more xv (7 : Int32))) + (own_more xv (14 : Int32))) + (own_more xv (21 : Int32))))]) (Q2 := (rm1_Q Z xv (28 : Int32) h21 n0)) X24 at_172 (hw _ (List.mem_of_getElem? (i := 2) rfl)) (hw _ (List.mem_of_getElem? (i := 3) rfl)) (hw _ (List.mem_of_getElem? (i := 4) rfl)) (hw _ (List.mem_of_getElem? (i := 5) rfl)) (by decide) (rm1 l Z a0 hw [] xv (28 : Int32) h21 n0 X24.size) pd_91 rfl rfl rfl (Nat.le_of_eq rfl) (by decide) (fun v25 T25 h25 X25 q25 => ?_)
  obtain ⟨rfl, rfl⟩ := q25
  refine w_iadd (pc' := 176) X25 at_175 rfl ?_
  refine w_lload (pc' := 178) X25 at_176 rfl rfl ?_
  refine w_bipush (pc' := 180) (z := (35 : Int32)) X25 at_178 rfl rfl ?_
  refine w_callS (pc' := 183) (wd := 1) (argsL := [(.long xv), (.int (35 : Int32))]) (rest := [(.int (((((1 : Int32) + (own_more xv (7 : Int32))) + (own_more xv (14 : Int32))) + (own_more xv (21 : Int32))) + (own_more xv (28 : Int32))))]) (Q2 := (rm1_Q Z xv (35 : Int32) h21 n0)) X25 at_180 (hw _ (List.mem_of_getElem? (i := 2) rfl)) (hw _ (List.mem_of_getElem? (i := 3) rfl)) (hw _ (List.mem_of_getElem? (i := 4) rfl)) (hw _ (List.mem_of_getElem? (i := 5) rfl)) (by decide) (rm1 l Z a0 hw [] xv (35 : Int32) h21 n0 X25.size) pd_91 rfl rfl rfl (Nat.le_of_eq rfl) (by decide) (fun v26 T26 h26 X26 q26 => ?_)
  obtain ⟨rfl, rfl⟩ := q26
  refine w_iadd (pc' := 184) X26 at_183 rfl ?_
  refine w_lload (pc' := 186) X26 at_184 rfl rfl ?_
  refine w_bipush (pc' := 188) (z := (42 : Int32)) X26 at_186 rfl rfl ?_
  refine w_callS (pc' := 191) (wd := 1) (argsL := [(.long xv), (.int (42 : Int32))]) (rest := [(.int ((((((1 : Int32) + (own_more xv (7 : Int32))) + (own_more xv (14 : Int32))) + (own_more xv (21 : Int32))) + (own_more xv (28 : Int32))) + (own_more xv (35 : Int32))))]) (Q2 := (rm1_Q Z xv (42 : Int32) h21 n0)) X26 at_188 (hw _ (List.mem_of_getElem? (i := 2) rfl)) (hw _ (List.mem_of_getElem? (i := 3) rfl)) (hw _ (List.mem_of_getElem? (i := 4) rfl)) (hw _ (List.mem_of_getElem? (i := 5) rfl)) (by decide) (rm1 l Z a0 hw [] xv (42 : Int32) h21 n0 X26.size) pd_91 rfl rfl rfl (Nat.le_of_eq rfl) (by decide) (fun v27 T27 h27 X27 q27 => ?_)
  obtain ⟨rfl, rfl⟩ := q27
  refine w_iadd (pc' := 192) X27 at_191 rfl ?_
  refine w_lload (pc' := 194) X27 at_192 rfl rfl ?_
  refine w_bipush (pc' := 196) (z := (49 : Int32)) X27 at_194 rfl rfl ?_
  refine w_callS (pc' := 199) (wd := 1) (argsL := [(.long xv), (.int (49 : Int32))]) (rest := [(.int (((((((1 : Int32) + (own_more xv (7 : Int32))) + (own_more xv (14 : Int32))) + (own_more xv (21 : Int32))) + (own_more xv (28 : Int32))) + (own_more xv (35 : Int32))) + (own_more xv (42 : Int32))))]) (Q2 := (rm1_Q Z xv (49 : Int32) h21 n0)) X27 at_196 (hw _ (List.mem_of_getElem? (i := 2) rfl)) (hw _ (List.mem_of_getElem? (i := 3) rfl)) (hw _ (List.mem_of_getElem? (i := 4) rfl)) (hw _ (List.mem_of_getElem? (i := 5) rfl)) (by decide) (rm1 l Z a0 hw [] xv (49 : Int32) h21 n0 X27.size) pd_91 rfl rfl rfl (Nat.le_of_eq rfl) (by decide) (fun v28 T28 h28 X28 q28 => ?_)
  obtain ⟨rfl, rfl⟩ := q28
  refine w_iadd (pc' := 200) X28 at_199 rfl ?_
  refine w_lload (pc' := 202) X28 at_200 rfl rfl ?_
  refine w_bipush (pc' := 204) (z := (56 : Int32)) X28 at_202 rfl rfl ?_
  refine w_callS (pc' := 207) (wd := 1) (argsL := [(.long xv), (.int (56 : Int32))]) (rest := [(.int ((((((((1 : Int32) + (own_more xv (7 : Int32))) + (own_more xv (14 : Int32))) + (own_more xv (21 : Int32))) + (own_more xv (28 : Int32))) + (own_more xv (35 : Int32))) + (own_more xv (42 : Int32))) + (own_more xv (49 : Int32))))]) (Q2 := (rm1_Q Z xv (56 : Int32) h21 n0)) X28 at_204 (hw _ (List.mem_of_getElem? (i := 2) rfl)) (hw _ (List.mem_of_getElem? (i := 3) rfl)) (hw _ (List.mem_of_getElem? (i := 4) rfl)) (hw _ (List.mem_of_getElem? (i := 5) rfl)) (by decide) (rm1 l Z a0 hw [] xv (56 : Int32) h21 n0 X28.size) pd_91 rfl rfl rfl (Nat.le_of_eq rfl) (by decide) (fun v29 T29 h29 X29 q29 => ?_)
  obtain ⟨rfl, rfl⟩ := q29
  refine w_iadd (pc' := 208) X29 at_207 rfl ?_
  refine w_lload (pc' := 210) X29 at_208 rfl rfl ?_
  refine w_bipush (pc' := 212) (z := (63 : Int32)) X29 at_210 rfl rfl ?_
  refine w_callS (pc' := 215) (wd := 1) (argsL := [(.long xv), (.int (63 : Int32))]) (rest := [(.int (((((((((1 : Int32) + (own_more xv (7 : Int32))) + (own_more xv (14 : Int32))) + (own_more xv (21 : Int32))) + (own_more xv (28 : Int32))) + (own_more xv (35 : Int32))) + (own_more xv (42 : Int32))) + (own_more xv (49 : Int32))) + (own_more xv (56 : Int32))))]) (Q2 := (rm1_Q Z xv (63 : Int32) h21 n0)) X29 at_212 (hw _ (List.mem_of_getElem? (i := 2) rfl)) (hw _ (List.mem_of_getElem? (i := 3) rfl)) (hw _ (List.mem_of_getElem? (i := 4) rfl)) (hw _ (List.mem_of_getElem? (i := 5) rfl)) (by decide) (rm1 l Z a0 hw [] xv (63 : Int32) h21 n0 X29.size) pd_91 rfl rfl rfl (Nat.le_of_eq rfl) (by decide) (fun v30 T30 h30 X30 q30 => ?_)
  obtain ⟨rfl, rfl⟩ := q30
  refine w_iadd (pc' := 216) X30 at_215 rfl ?_
  obtain ⟨N, eN, hN1, hN2, hN3, hN4⟩ := own_lenN hx0
  refine w_topI (x' := (Int32.ofNat N)) (eN) ?_
  refine w_istore (pc' := 218) (L' := #[.val (.long x0), .second, .val (.int s0), .val (.int a1), .val (.int c1), .val (.long xv), .second, .val (.int (Int32.ofNat att)), .val (.int sv), .val (.ref b1), .val (.int (Int32.ofNat N)), .unset, .unset]) X30 at_216 rfl rfl ?_
  refine w_aload (pc' := 220) X30 at_218 rfl rfl rfl ?_
  refine w_iload (pc' := 222) X30 at_220 rfl rfl ?_
  refine w_lload (pc' := 224) X30 at_222 rfl rfl ?_
  refine w_callS (pc' := 227) (wd := 0) (argsL := [(.ref b1), (.int (Int32.ofNat att)), (.long xv)]) (rest := []) (Q2 := (rm2_Q Z b1 (Int32.ofNat att) xv (fun _ => .int sv) att N h21 n0)) X30 at_224 (hw _ (List.mem_of_getElem? (i := 6) rfl)) (hw _ (List.mem_of_getElem? (i := 7) rfl)) (hw _ (List.mem_of_getElem? (i := 8) rfl)) (hw _ (List.mem_of_getElem? (i := 9) rfl)) (by decide) (rm2 l Z a0 hw [] b1 (Int32.ofNat att) xv (fun _ => .int sv) att N h21 n0 X30.size Fq rfl ⟨hat, hN1, hN2⟩ hx0 hN3 hN4 g1) pd_92 rfl rfl rfl (Nat.le_of_eq rfl) (by decide) (fun v31 T31 h31 X31 q31 => ?_)
  obtain ⟨rfl, Kc31, Fc31⟩ := q31
  refine w_istore (pc' := 229) (L' := #[.val (.long x0), .second, .val (.int s0), .val (.int a1), .val (.int c1), .val (.long xv), .second, .val (.int (Int32.ofNat att)), .val (.int sv), .val (.ref b1), .val (.int (Int32.ofNat N)), .val (.int (Int32.ofNat (att + N))), .unset]) X31 at_227 rfl rfl ?_
  refine w_iload (pc' := 231) X31 at_229 rfl rfl ?_
  refine w_iload (pc' := 233) X31 at_231 rfl rfl ?_
  refine w_iload (pc' := 235) X31 at_233 rfl rfl ?_
  refine w_iadd (pc' := 236) X31 at_235 rfl ?_
  refine w_icmp_ne (pc1 := 243) (pc2 := 239) X31 at_236 (by decide) (fun (hc236 : (Int32.ofNat (att + N)) ≠ ((Int32.ofNat att) + (Int32.ofNat N))) => absurd (own_addn att N).symm hc236) (fun (hc236 : (Int32.ofNat (att + N)) = ((Int32.ofNat att) + (Int32.ofNat N))) => ?_)
  refine w_iconst (pc' := 240) (z := (1 : Int32)) X31 at_239 rfl rfl ?_
  refine w_goto (pc' := 244) X31 at_240 (by decide) ?_
  refine w_istore (pc' := 246) (L' := #[.val (.long x0), .second, .val (.int s0), .val (.int a1), .val (.int c1), .val (.long xv), .second, .val (.int (Int32.ofNat att)), .val (.int sv), .val (.ref b1), .val (.int (Int32.ofNat N)), .val (.int (Int32.ofNat (att + N))), .val (.int (1 : Int32))]) X31 at_244 rfl rfl ?_
  refine w_iload (pc' := 248) X31 at_246 rfl rfl ?_
  refine w_if_eq (pc1 := 272) (pc2 := 251) X31 at_248 (by decide) (fun (hc248 : (1 : Int32) = (0 : Int32)) => absurd hc248 (by decide)) (fun (hc248 : (1 : Int32) ≠ (0 : Int32)) => ?_)
  refine w_aload (pc' := 253) X31 at_251 rfl rfl rfl ?_
  refine w_iconst (pc' := 254) (z := (0 : Int32)) X31 at_253 rfl rfl ?_
  refine w_iload (pc' := 256) X31 at_254 rfl rfl ?_
  refine w_iload (pc' := 258) X31 at_256 rfl rfl ?_
  refine w_lload (pc' := 260) X31 at_258 rfl rfl ?_
  refine w_iload (pc' := 262) X31 at_260 rfl rfl ?_
  refine w_callS (pc' := 265) (wd := 0) (argsL := [(.ref b1), (.int (0 : Int32)), (.int (Int32.ofNat att)), (.int (Int32.ofNat N)), (.long xv), (.int sv)]) (rest := []) (Q2 := (rm3_Q Z b1 (0 : Int32) (Int32.ofNat att) (Int32.ofNat N) xv sv att N 0 h31 n0)) X31 at_262 (hw _ (List.mem_of_getElem? (i := 11) rfl)) (hw _ (List.mem_of_getElem? (i := 12) rfl)) (hw _ (List.mem_of_getElem? (i := 4) rfl)) (hw _ (List.mem_of_getElem? (i := 13) rfl)) (by decide) (rm3 l Z a0 hw [] b1 (0 : Int32) (Int32.ofNat att) (Int32.ofNat N) xv sv att N 0 h31 n0 X31.size Fc31 rfl rfl rfl ⟨by decide, hat, hN1, hN2⟩ hx0 hN3) pd_93 rfl rfl rfl (Nat.le_of_eq rfl) (by decide) (fun v32 T32 h32 X32 q32 => ?_)
  obtain ⟨rfl, rfl⟩ := q32
  refine w_if_eq (pc1 := 272) (pc2 := 268) X32 at_265 (by decide) (fun (hc265 : (1 : Int32) = (0 : Int32)) => absurd hc265 (by decide)) (fun (hc265 : (1 : Int32) ≠ (0 : Int32)) => ?_)
  refine w_iconst (pc' := 269) (z := (1 : Int32)) X32 at_268 rfl rfl ?_
  refine w_goto (pc' := 273) X32 at_269 (by decide) ?_
  refine w_istore (pc' := 275) (L' := #[.val (.long x0), .second, .val (.int s0), .val (.int a1), .val (.int c1), .val (.long xv), .second, .val (.int (Int32.ofNat att)), .val (.int sv), .val (.ref b1), .val (.int (Int32.ofNat N)), .val (.int (Int32.ofNat (att + N))), .val (.int (1 : Int32))]) X32 at_273 rfl rfl ?_
  refine w_iload (pc' := 277) X32 at_275 rfl rfl ?_
  refine w_if_eq (pc1 := 301) (pc2 := 280) X32 at_277 (by decide) (fun (hc277 : (1 : Int32) = (0 : Int32)) => absurd hc277 (by decide)) (fun (hc277 : (1 : Int32) ≠ (0 : Int32)) => ?_)
  refine w_aload (pc' := 282) X32 at_280 rfl rfl rfl ?_
  refine w_iconst (pc' := 283) (z := (1 : Int32)) X32 at_282 rfl rfl ?_
  refine w_iload (pc' := 285) X32 at_283 rfl rfl ?_
  refine w_iload (pc' := 287) X32 at_285 rfl rfl ?_
  refine w_lload (pc' := 289) X32 at_287 rfl rfl ?_
  refine w_iload (pc' := 291) X32 at_289 rfl rfl ?_
  refine w_callS (pc' := 294) (wd := 0) (argsL := [(.ref b1), (.int (1 : Int32)), (.int (Int32.ofNat att)), (.int (Int32.ofNat N)), (.long xv), (.int sv)]) (rest := []) (Q2 := (rm3_Q Z b1 (1 : Int32) (Int32.ofNat att) (Int32.ofNat N) xv sv att N 1 h31 n0)) X32 at_291 (hw _ (List.mem_of_getElem? (i := 11) rfl)) (hw _ (List.mem_of_getElem? (i := 12) rfl)) (hw _ (List.mem_of_getElem? (i := 4) rfl)) (hw _ (List.mem_of_getElem? (i := 13) rfl)) (by decide) (rm3 l Z a0 hw [] b1 (1 : Int32) (Int32.ofNat att) (Int32.ofNat N) xv sv att N 1 h31 n0 X32.size Fc31 rfl rfl rfl ⟨by decide, hat, hN1, hN2⟩ hx0 hN3) pd_93 rfl rfl rfl (Nat.le_of_eq rfl) (by decide) (fun v33 T33 h33 X33 q33 => ?_)
  obtain ⟨rfl, rfl⟩ := q33
  refine w_if_eq (pc1 := 301) (pc2 := 297) X33 at_294 (by decide) (fun (hc294 : (1 : Int32) = (0 : Int32)) => absurd hc294 (by decide)) (fun (hc294 : (1 : Int32) ≠ (0 : Int32)) => ?_)
  refine w_iconst (pc' := 298) (z := (1 : Int32)) X33 at_297 rfl rfl ?_
  refine w_goto (pc' := 302) X33 at_298 (by decide) ?_
  refine w_istore (pc' := 304) (L' := #[.val (.long x0), .second, .val (.int s0), .val (.int a1), .val (.int c1), .val (.long xv), .second, .val (.int (Int32.ofNat att)), .val (.int sv), .val (.ref b1), .val (.int (Int32.ofNat N)), .val (.int (Int32.ofNat (att + N))), .val (.int (1 : Int32))]) X33 at_302 rfl rfl ?_
  refine w_iload (pc' := 306) X33 at_304 rfl rfl ?_
  refine w_if_eq (pc1 := 330) (pc2 := 309) X33 at_306 (by decide) (fun (hc306 : (1 : Int32) = (0 : Int32)) => absurd hc306 (by decide)) (fun (hc306 : (1 : Int32) ≠ (0 : Int32)) => ?_)
  refine w_aload (pc' := 311) X33 at_309 rfl rfl rfl ?_
  refine w_iconst (pc' := 312) (z := (2 : Int32)) X33 at_311 rfl rfl ?_
  refine w_iload (pc' := 314) X33 at_312 rfl rfl ?_
  refine w_iload (pc' := 316) X33 at_314 rfl rfl ?_
  refine w_lload (pc' := 318) X33 at_316 rfl rfl ?_
  refine w_iload (pc' := 320) X33 at_318 rfl rfl ?_
  refine w_callS (pc' := 323) (wd := 0) (argsL := [(.ref b1), (.int (2 : Int32)), (.int (Int32.ofNat att)), (.int (Int32.ofNat N)), (.long xv), (.int sv)]) (rest := []) (Q2 := (rm3_Q Z b1 (2 : Int32) (Int32.ofNat att) (Int32.ofNat N) xv sv att N 2 h31 n0)) X33 at_320 (hw _ (List.mem_of_getElem? (i := 11) rfl)) (hw _ (List.mem_of_getElem? (i := 12) rfl)) (hw _ (List.mem_of_getElem? (i := 4) rfl)) (hw _ (List.mem_of_getElem? (i := 13) rfl)) (by decide) (rm3 l Z a0 hw [] b1 (2 : Int32) (Int32.ofNat att) (Int32.ofNat N) xv sv att N 2 h31 n0 X33.size Fc31 rfl rfl rfl ⟨by decide, hat, hN1, hN2⟩ hx0 hN3) pd_93 rfl rfl rfl (Nat.le_of_eq rfl) (by decide) (fun v34 T34 h34 X34 q34 => ?_)
  obtain ⟨rfl, rfl⟩ := q34
  refine w_if_eq (pc1 := 330) (pc2 := 326) X34 at_323 (by decide) (fun (hc323 : (1 : Int32) = (0 : Int32)) => absurd hc323 (by decide)) (fun (hc323 : (1 : Int32) ≠ (0 : Int32)) => ?_)
  refine w_iconst (pc' := 327) (z := (1 : Int32)) X34 at_326 rfl rfl ?_
  refine w_goto (pc' := 331) X34 at_327 (by decide) ?_
  refine w_istore (pc' := 333) (L' := #[.val (.long x0), .second, .val (.int s0), .val (.int a1), .val (.int c1), .val (.long xv), .second, .val (.int (Int32.ofNat att)), .val (.int sv), .val (.ref b1), .val (.int (Int32.ofNat N)), .val (.int (Int32.ofNat (att + N))), .val (.int (1 : Int32))]) X34 at_331 rfl rfl ?_
  refine w_iload (pc' := 335) X34 at_333 rfl rfl ?_
  refine w_if_eq (pc1 := 359) (pc2 := 338) X34 at_335 (by decide) (fun (hc335 : (1 : Int32) = (0 : Int32)) => absurd hc335 (by decide)) (fun (hc335 : (1 : Int32) ≠ (0 : Int32)) => ?_)
  refine w_aload (pc' := 340) X34 at_338 rfl rfl rfl ?_
  refine w_iconst (pc' := 341) (z := (3 : Int32)) X34 at_340 rfl rfl ?_
  refine w_iload (pc' := 343) X34 at_341 rfl rfl ?_
  refine w_iload (pc' := 345) X34 at_343 rfl rfl ?_
  refine w_lload (pc' := 347) X34 at_345 rfl rfl ?_
  refine w_iload (pc' := 349) X34 at_347 rfl rfl ?_
  refine w_callS (pc' := 352) (wd := 0) (argsL := [(.ref b1), (.int (3 : Int32)), (.int (Int32.ofNat att)), (.int (Int32.ofNat N)), (.long xv), (.int sv)]) (rest := []) (Q2 := (rm3_Q Z b1 (3 : Int32) (Int32.ofNat att) (Int32.ofNat N) xv sv att N 3 h31 n0)) X34 at_349 (hw _ (List.mem_of_getElem? (i := 11) rfl)) (hw _ (List.mem_of_getElem? (i := 12) rfl)) (hw _ (List.mem_of_getElem? (i := 4) rfl)) (hw _ (List.mem_of_getElem? (i := 13) rfl)) (by decide) (rm3 l Z a0 hw [] b1 (3 : Int32) (Int32.ofNat att) (Int32.ofNat N) xv sv att N 3 h31 n0 X34.size Fc31 rfl rfl rfl ⟨by decide, hat, hN1, hN2⟩ hx0 hN3) pd_93 rfl rfl rfl (Nat.le_of_eq rfl) (by decide) (fun v35 T35 h35 X35 q35 => ?_)
  obtain ⟨rfl, rfl⟩ := q35
  refine w_if_eq (pc1 := 359) (pc2 := 355) X35 at_352 (by decide) (fun (hc352 : (1 : Int32) = (0 : Int32)) => absurd hc352 (by decide)) (fun (hc352 : (1 : Int32) ≠ (0 : Int32)) => ?_)
  refine w_iconst (pc' := 356) (z := (1 : Int32)) X35 at_355 rfl rfl ?_
  refine w_goto (pc' := 360) X35 at_356 (by decide) ?_
  refine w_istore (pc' := 362) (L' := #[.val (.long x0), .second, .val (.int s0), .val (.int a1), .val (.int c1), .val (.long xv), .second, .val (.int (Int32.ofNat att)), .val (.int sv), .val (.ref b1), .val (.int (Int32.ofNat N)), .val (.int (Int32.ofNat (att + N))), .val (.int (1 : Int32))]) X35 at_360 rfl rfl ?_
  refine w_iload (pc' := 364) X35 at_362 rfl rfl ?_
  refine w_if_eq (pc1 := 388) (pc2 := 367) X35 at_364 (by decide) (fun (hc364 : (1 : Int32) = (0 : Int32)) => absurd hc364 (by decide)) (fun (hc364 : (1 : Int32) ≠ (0 : Int32)) => ?_)
  refine w_aload (pc' := 369) X35 at_367 rfl rfl rfl ?_
  refine w_iconst (pc' := 370) (z := (4 : Int32)) X35 at_369 rfl rfl ?_
  refine w_iload (pc' := 372) X35 at_370 rfl rfl ?_
  refine w_iload (pc' := 374) X35 at_372 rfl rfl ?_
  refine w_lload (pc' := 376) X35 at_374 rfl rfl ?_
  refine w_iload (pc' := 378) X35 at_376 rfl rfl ?_
  refine w_callS (pc' := 381) (wd := 0) (argsL := [(.ref b1), (.int (4 : Int32)), (.int (Int32.ofNat att)), (.int (Int32.ofNat N)), (.long xv), (.int sv)]) (rest := []) (Q2 := (rm3_Q Z b1 (4 : Int32) (Int32.ofNat att) (Int32.ofNat N) xv sv att N 4 h31 n0)) X35 at_378 (hw _ (List.mem_of_getElem? (i := 11) rfl)) (hw _ (List.mem_of_getElem? (i := 12) rfl)) (hw _ (List.mem_of_getElem? (i := 4) rfl)) (hw _ (List.mem_of_getElem? (i := 13) rfl)) (by decide) (rm3 l Z a0 hw [] b1 (4 : Int32) (Int32.ofNat att) (Int32.ofNat N) xv sv att N 4 h31 n0 X35.size Fc31 rfl rfl rfl ⟨by decide, hat, hN1, hN2⟩ hx0 hN3) pd_93 rfl rfl rfl (Nat.le_of_eq rfl) (by decide) (fun v36 T36 h36 X36 q36 => ?_)
  obtain ⟨rfl, rfl⟩ := q36
  refine w_if_eq (pc1 := 388) (pc2 := 384) X36 at_381 (by decide) (fun (hc381 : (1 : Int32) = (0 : Int32)) => absurd hc381 (by decide)) (fun (hc381 : (1 : Int32) ≠ (0 : Int32)) => ?_)
  refine w_iconst (pc' := 385) (z := (1 : Int32)) X36 at_384 rfl rfl ?_
  refine w_goto (pc' := 389) X36 at_385 (by decide) ?_
  refine w_istore (pc' := 391) (L' := #[.val (.long x0), .second, .val (.int s0), .val (.int a1), .val (.int c1), .val (.long xv), .second, .val (.int (Int32.ofNat att)), .val (.int sv), .val (.ref b1), .val (.int (Int32.ofNat N)), .val (.int (Int32.ofNat (att + N))), .val (.int (1 : Int32))]) X36 at_389 rfl rfl ?_
  refine w_iload (pc' := 393) X36 at_391 rfl rfl ?_
  refine w_if_eq (pc1 := 417) (pc2 := 396) X36 at_393 (by decide) (fun (hc393 : (1 : Int32) = (0 : Int32)) => absurd hc393 (by decide)) (fun (hc393 : (1 : Int32) ≠ (0 : Int32)) => ?_)
  refine w_aload (pc' := 398) X36 at_396 rfl rfl rfl ?_
  refine w_iconst (pc' := 399) (z := (5 : Int32)) X36 at_398 rfl rfl ?_
  refine w_iload (pc' := 401) X36 at_399 rfl rfl ?_
  refine w_iload (pc' := 403) X36 at_401 rfl rfl ?_
  refine w_lload (pc' := 405) X36 at_403 rfl rfl ?_
  refine w_iload (pc' := 407) X36 at_405 rfl rfl ?_
  refine w_callS (pc' := 410) (wd := 0) (argsL := [(.ref b1), (.int (5 : Int32)), (.int (Int32.ofNat att)), (.int (Int32.ofNat N)), (.long xv), (.int sv)]) (rest := []) (Q2 := (rm3_Q Z b1 (5 : Int32) (Int32.ofNat att) (Int32.ofNat N) xv sv att N 5 h31 n0)) X36 at_407 (hw _ (List.mem_of_getElem? (i := 11) rfl)) (hw _ (List.mem_of_getElem? (i := 12) rfl)) (hw _ (List.mem_of_getElem? (i := 4) rfl)) (hw _ (List.mem_of_getElem? (i := 13) rfl)) (by decide) (rm3 l Z a0 hw [] b1 (5 : Int32) (Int32.ofNat att) (Int32.ofNat N) xv sv att N 5 h31 n0 X36.size Fc31 rfl rfl rfl ⟨by decide, hat, hN1, hN2⟩ hx0 hN3) pd_93 rfl rfl rfl (Nat.le_of_eq rfl) (by decide) (fun v37 T37 h37 X37 q37 => ?_)
  obtain ⟨rfl, rfl⟩ := q37
  refine w_if_eq (pc1 := 417) (pc2 := 413) X37 at_410 (by decide) (fun (hc410 : (1 : Int32) = (0 : Int32)) => absurd hc410 (by decide)) (fun (hc410 : (1 : Int32) ≠ (0 : Int32)) => ?_)
  refine w_iconst (pc' := 414) (z := (1 : Int32)) X37 at_413 rfl rfl ?_
  refine w_goto (pc' := 418) X37 at_414 (by decide) ?_
  refine w_istore (pc' := 420) (L' := #[.val (.long x0), .second, .val (.int s0), .val (.int a1), .val (.int c1), .val (.long xv), .second, .val (.int (Int32.ofNat att)), .val (.int sv), .val (.ref b1), .val (.int (Int32.ofNat N)), .val (.int (Int32.ofNat (att + N))), .val (.int (1 : Int32))]) X37 at_418 rfl rfl ?_
  refine w_iload (pc' := 422) X37 at_420 rfl rfl ?_
  refine w_if_eq (pc1 := 447) (pc2 := 425) X37 at_422 (by decide) (fun (hc422 : (1 : Int32) = (0 : Int32)) => absurd hc422 (by decide)) (fun (hc422 : (1 : Int32) ≠ (0 : Int32)) => ?_)
  refine w_aload (pc' := 427) X37 at_425 rfl rfl rfl ?_
  refine w_bipush (pc' := 429) (z := (6 : Int32)) X37 at_427 rfl rfl ?_
  refine w_iload (pc' := 431) X37 at_429 rfl rfl ?_
  refine w_iload (pc' := 433) X37 at_431 rfl rfl ?_
  refine w_lload (pc' := 435) X37 at_433 rfl rfl ?_
  refine w_iload (pc' := 437) X37 at_435 rfl rfl ?_
  refine w_callS (pc' := 440) (wd := 0) (argsL := [(.ref b1), (.int (6 : Int32)), (.int (Int32.ofNat att)), (.int (Int32.ofNat N)), (.long xv), (.int sv)]) (rest := []) (Q2 := (rm3_Q Z b1 (6 : Int32) (Int32.ofNat att) (Int32.ofNat N) xv sv att N 6 h31 n0)) X37 at_437 (hw _ (List.mem_of_getElem? (i := 11) rfl)) (hw _ (List.mem_of_getElem? (i := 12) rfl)) (hw _ (List.mem_of_getElem? (i := 4) rfl)) (hw _ (List.mem_of_getElem? (i := 13) rfl)) (by decide) (rm3 l Z a0 hw [] b1 (6 : Int32) (Int32.ofNat att) (Int32.ofNat N) xv sv att N 6 h31 n0 X37.size Fc31 rfl rfl rfl ⟨by decide, hat, hN1, hN2⟩ hx0 hN3) pd_93 rfl rfl rfl (Nat.le_of_eq rfl) (by decide) (fun v38 T38 h38 X38 q38 => ?_)
  obtain ⟨rfl, rfl⟩ := q38
  refine w_if_eq (pc1 := 447) (pc2 := 443) X38 at_440 (by decide) (fun (hc440 : (1 : Int32) = (0 : Int32)) => absurd hc440 (by decide)) (fun (hc440 : (1 : Int32) ≠ (0 : Int32)) => ?_)
  refine w_iconst (pc' := 444) (z := (1 : Int32)) X38 at_443 rfl rfl ?_
  refine w_goto (pc' := 448) X38 at_444 (by decide) ?_
  refine w_istore (pc' := 450) (L' := #[.val (.long x0), .second, .val (.int s0), .val (.int a1), .val (.int c1), .val (.long xv), .second, .val (.int (Int32.ofNat att)), .val (.int sv), .val (.ref b1), .val (.int (Int32.ofNat N)), .val (.int (Int32.ofNat (att + N))), .val (.int (1 : Int32))]) X38 at_448 rfl rfl ?_
  refine w_iload (pc' := 452) X38 at_450 rfl rfl ?_
  refine w_if_eq (pc1 := 477) (pc2 := 455) X38 at_452 (by decide) (fun (hc452 : (1 : Int32) = (0 : Int32)) => absurd hc452 (by decide)) (fun (hc452 : (1 : Int32) ≠ (0 : Int32)) => ?_)
  refine w_aload (pc' := 457) X38 at_455 rfl rfl rfl ?_
  refine w_bipush (pc' := 459) (z := (7 : Int32)) X38 at_457 rfl rfl ?_
  refine w_iload (pc' := 461) X38 at_459 rfl rfl ?_
  refine w_iload (pc' := 463) X38 at_461 rfl rfl ?_
  refine w_lload (pc' := 465) X38 at_463 rfl rfl ?_
  refine w_iload (pc' := 467) X38 at_465 rfl rfl ?_
  refine w_callS (pc' := 470) (wd := 0) (argsL := [(.ref b1), (.int (7 : Int32)), (.int (Int32.ofNat att)), (.int (Int32.ofNat N)), (.long xv), (.int sv)]) (rest := []) (Q2 := (rm3_Q Z b1 (7 : Int32) (Int32.ofNat att) (Int32.ofNat N) xv sv att N 7 h31 n0)) X38 at_467 (hw _ (List.mem_of_getElem? (i := 11) rfl)) (hw _ (List.mem_of_getElem? (i := 12) rfl)) (hw _ (List.mem_of_getElem? (i := 4) rfl)) (hw _ (List.mem_of_getElem? (i := 13) rfl)) (by decide) (rm3 l Z a0 hw [] b1 (7 : Int32) (Int32.ofNat att) (Int32.ofNat N) xv sv att N 7 h31 n0 X38.size Fc31 rfl rfl rfl ⟨by decide, hat, hN1, hN2⟩ hx0 hN3) pd_93 rfl rfl rfl (Nat.le_of_eq rfl) (by decide) (fun v39 T39 h39 X39 q39 => ?_)
  obtain ⟨rfl, rfl⟩ := q39
  refine w_if_eq (pc1 := 477) (pc2 := 473) X39 at_470 (by decide) (fun (hc470 : (1 : Int32) = (0 : Int32)) => absurd hc470 (by decide)) (fun (hc470 : (1 : Int32) ≠ (0 : Int32)) => ?_)
  refine w_iconst (pc' := 474) (z := (1 : Int32)) X39 at_473 rfl rfl ?_
  refine w_goto (pc' := 478) X39 at_474 (by decide) ?_
  refine w_istore (pc' := 480) (L' := #[.val (.long x0), .second, .val (.int s0), .val (.int a1), .val (.int c1), .val (.long xv), .second, .val (.int (Int32.ofNat att)), .val (.int sv), .val (.ref b1), .val (.int (Int32.ofNat N)), .val (.int (Int32.ofNat (att + N))), .val (.int (1 : Int32))]) X39 at_478 rfl rfl ?_
  refine w_iload (pc' := 482) X39 at_480 rfl rfl ?_
  refine w_if_eq (pc1 := 507) (pc2 := 485) X39 at_482 (by decide) (fun (hc482 : (1 : Int32) = (0 : Int32)) => absurd hc482 (by decide)) (fun (hc482 : (1 : Int32) ≠ (0 : Int32)) => ?_)
  refine w_aload (pc' := 487) X39 at_485 rfl rfl rfl ?_
  refine w_bipush (pc' := 489) (z := (8 : Int32)) X39 at_487 rfl rfl ?_
  refine w_iload (pc' := 491) X39 at_489 rfl rfl ?_
  refine w_iload (pc' := 493) X39 at_491 rfl rfl ?_
  refine w_lload (pc' := 495) X39 at_493 rfl rfl ?_
  refine w_iload (pc' := 497) X39 at_495 rfl rfl ?_
  refine w_callS (pc' := 500) (wd := 0) (argsL := [(.ref b1), (.int (8 : Int32)), (.int (Int32.ofNat att)), (.int (Int32.ofNat N)), (.long xv), (.int sv)]) (rest := []) (Q2 := (rm3_Q Z b1 (8 : Int32) (Int32.ofNat att) (Int32.ofNat N) xv sv att N 8 h31 n0)) X39 at_497 (hw _ (List.mem_of_getElem? (i := 11) rfl)) (hw _ (List.mem_of_getElem? (i := 12) rfl)) (hw _ (List.mem_of_getElem? (i := 4) rfl)) (hw _ (List.mem_of_getElem? (i := 13) rfl)) (by decide) (rm3 l Z a0 hw [] b1 (8 : Int32) (Int32.ofNat att) (Int32.ofNat N) xv sv att N 8 h31 n0 X39.size Fc31 rfl rfl rfl ⟨by decide, hat, hN1, hN2⟩ hx0 hN3) pd_93 rfl rfl rfl (Nat.le_of_eq rfl) (by decide) (fun v40 T40 h40 X40 q40 => ?_)
  obtain ⟨rfl, rfl⟩ := q40
  refine w_if_eq (pc1 := 507) (pc2 := 503) X40 at_500 (by decide) (fun (hc500 : (1 : Int32) = (0 : Int32)) => absurd hc500 (by decide)) (fun (hc500 : (1 : Int32) ≠ (0 : Int32)) => ?_)
  refine w_iconst (pc' := 504) (z := (1 : Int32)) X40 at_503 rfl rfl ?_
  refine w_goto (pc' := 508) X40 at_504 (by decide) ?_
  refine w_istore (pc' := 510) (L' := #[.val (.long x0), .second, .val (.int s0), .val (.int a1), .val (.int c1), .val (.long xv), .second, .val (.int (Int32.ofNat att)), .val (.int sv), .val (.ref b1), .val (.int (Int32.ofNat N)), .val (.int (Int32.ofNat (att + N))), .val (.int (1 : Int32))]) X40 at_508 rfl rfl ?_
  refine w_iload (pc' := 512) X40 at_510 rfl rfl ?_
  refine w_if_eq (pc1 := 537) (pc2 := 515) X40 at_512 (by decide) (fun (hc512 : (1 : Int32) = (0 : Int32)) => absurd hc512 (by decide)) (fun (hc512 : (1 : Int32) ≠ (0 : Int32)) => ?_)
  refine w_aload (pc' := 517) X40 at_515 rfl rfl rfl ?_
  refine w_bipush (pc' := 519) (z := (9 : Int32)) X40 at_517 rfl rfl ?_
  refine w_iload (pc' := 521) X40 at_519 rfl rfl ?_
  refine w_iload (pc' := 523) X40 at_521 rfl rfl ?_
  refine w_lload (pc' := 525) X40 at_523 rfl rfl ?_
  refine w_iload (pc' := 527) X40 at_525 rfl rfl ?_
  refine w_callS (pc' := 530) (wd := 0) (argsL := [(.ref b1), (.int (9 : Int32)), (.int (Int32.ofNat att)), (.int (Int32.ofNat N)), (.long xv), (.int sv)]) (rest := []) (Q2 := (rm3_Q Z b1 (9 : Int32) (Int32.ofNat att) (Int32.ofNat N) xv sv att N 9 h31 n0)) X40 at_527 (hw _ (List.mem_of_getElem? (i := 11) rfl)) (hw _ (List.mem_of_getElem? (i := 12) rfl)) (hw _ (List.mem_of_getElem? (i := 4) rfl)) (hw _ (List.mem_of_getElem? (i := 13) rfl)) (by decide) (rm3 l Z a0 hw [] b1 (9 : Int32) (Int32.ofNat att) (Int32.ofNat N) xv sv att N 9 h31 n0 X40.size Fc31 rfl rfl rfl ⟨by decide, hat, hN1, hN2⟩ hx0 hN3) pd_93 rfl rfl rfl (Nat.le_of_eq rfl) (by decide) (fun v41 T41 h41 X41 q41 => ?_)
  obtain ⟨rfl, rfl⟩ := q41
  refine w_if_eq (pc1 := 537) (pc2 := 533) X41 at_530 (by decide) (fun (hc530 : (1 : Int32) = (0 : Int32)) => absurd hc530 (by decide)) (fun (hc530 : (1 : Int32) ≠ (0 : Int32)) => ?_)
  refine w_iconst (pc' := 534) (z := (1 : Int32)) X41 at_533 rfl rfl ?_
  refine w_goto (pc' := 538) X41 at_534 (by decide) ?_
  refine w_istore (pc' := 540) (L' := #[.val (.long x0), .second, .val (.int s0), .val (.int a1), .val (.int c1), .val (.long xv), .second, .val (.int (Int32.ofNat att)), .val (.int sv), .val (.ref b1), .val (.int (Int32.ofNat N)), .val (.int (Int32.ofNat (att + N))), .val (.int (1 : Int32))]) X41 at_538 rfl rfl ?_
  refine w_iload (pc' := 542) X41 at_540 rfl rfl ?_
  refine w_if_eq (pc1 := 567) (pc2 := 545) X41 at_542 (by decide) (fun (hc542 : (1 : Int32) = (0 : Int32)) => absurd hc542 (by decide)) (fun (hc542 : (1 : Int32) ≠ (0 : Int32)) => ?_)
  refine w_aload (pc' := 547) X41 at_545 rfl rfl rfl ?_
  refine w_bipush (pc' := 549) (z := (10 : Int32)) X41 at_547 rfl rfl ?_
  refine w_iload (pc' := 551) X41 at_549 rfl rfl ?_
  refine w_iload (pc' := 553) X41 at_551 rfl rfl ?_
  refine w_lload (pc' := 555) X41 at_553 rfl rfl ?_
  refine w_iload (pc' := 557) X41 at_555 rfl rfl ?_
  refine w_callS (pc' := 560) (wd := 0) (argsL := [(.ref b1), (.int (10 : Int32)), (.int (Int32.ofNat att)), (.int (Int32.ofNat N)), (.long xv), (.int sv)]) (rest := []) (Q2 := (rm3_Q Z b1 (10 : Int32) (Int32.ofNat att) (Int32.ofNat N) xv sv att N 10 h31 n0)) X41 at_557 (hw _ (List.mem_of_getElem? (i := 11) rfl)) (hw _ (List.mem_of_getElem? (i := 12) rfl)) (hw _ (List.mem_of_getElem? (i := 4) rfl)) (hw _ (List.mem_of_getElem? (i := 13) rfl)) (by decide) (rm3 l Z a0 hw [] b1 (10 : Int32) (Int32.ofNat att) (Int32.ofNat N) xv sv att N 10 h31 n0 X41.size Fc31 rfl rfl rfl ⟨by decide, hat, hN1, hN2⟩ hx0 hN3) pd_93 rfl rfl rfl (Nat.le_of_eq rfl) (by decide) (fun v42 T42 h42 X42 q42 => ?_)
  obtain ⟨rfl, rfl⟩ := q42
  refine w_if_eq (pc1 := 567) (pc2 := 563) X42 at_560 (by decide) (fun (hc560 : (1 : Int32) = (0 : Int32)) => absurd hc560 (by decide)) (fun (hc560 : (1 : Int32) ≠ (0 : Int32)) => ?_)
  refine w_iconst (pc' := 564) (z := (1 : Int32)) X42 at_563 rfl rfl ?_
  refine w_goto (pc' := 568) X42 at_564 (by decide) ?_
  refine w_istore (pc' := 570) (L' := #[.val (.long x0), .second, .val (.int s0), .val (.int a1), .val (.int c1), .val (.long xv), .second, .val (.int (Int32.ofNat att)), .val (.int sv), .val (.ref b1), .val (.int (Int32.ofNat N)), .val (.int (Int32.ofNat (att + N))), .val (.int (1 : Int32))]) X42 at_568 rfl rfl ?_
  refine w_iload (pc' := 572) X42 at_570 rfl rfl ?_
  refine w_if_eq (pc1 := 597) (pc2 := 575) X42 at_572 (by decide) (fun (hc572 : (1 : Int32) = (0 : Int32)) => absurd hc572 (by decide)) (fun (hc572 : (1 : Int32) ≠ (0 : Int32)) => ?_)
  refine w_aload (pc' := 577) X42 at_575 rfl rfl rfl ?_
  refine w_bipush (pc' := 579) (z := (11 : Int32)) X42 at_577 rfl rfl ?_
  refine w_iload (pc' := 581) X42 at_579 rfl rfl ?_
  refine w_iload (pc' := 583) X42 at_581 rfl rfl ?_
  refine w_lload (pc' := 585) X42 at_583 rfl rfl ?_
  refine w_iload (pc' := 587) X42 at_585 rfl rfl ?_
  refine w_callS (pc' := 590) (wd := 0) (argsL := [(.ref b1), (.int (11 : Int32)), (.int (Int32.ofNat att)), (.int (Int32.ofNat N)), (.long xv), (.int sv)]) (rest := []) (Q2 := (rm3_Q Z b1 (11 : Int32) (Int32.ofNat att) (Int32.ofNat N) xv sv att N 11 h31 n0)) X42 at_587 (hw _ (List.mem_of_getElem? (i := 11) rfl)) (hw _ (List.mem_of_getElem? (i := 12) rfl)) (hw _ (List.mem_of_getElem? (i := 4) rfl)) (hw _ (List.mem_of_getElem? (i := 13) rfl)) (by decide) (rm3 l Z a0 hw [] b1 (11 : Int32) (Int32.ofNat att) (Int32.ofNat N) xv sv att N 11 h31 n0 X42.size Fc31 rfl rfl rfl ⟨by decide, hat, hN1, hN2⟩ hx0 hN3) pd_93 rfl rfl rfl (Nat.le_of_eq rfl) (by decide) (fun v43 T43 h43 X43 q43 => ?_)
  obtain ⟨rfl, rfl⟩ := q43
  refine w_if_eq (pc1 := 597) (pc2 := 593) X43 at_590 (by decide) (fun (hc590 : (1 : Int32) = (0 : Int32)) => absurd hc590 (by decide)) (fun (hc590 : (1 : Int32) ≠ (0 : Int32)) => ?_)
  refine w_iconst (pc' := 594) (z := (1 : Int32)) X43 at_593 rfl rfl ?_
  refine w_goto (pc' := 598) X43 at_594 (by decide) ?_
  refine w_istore (pc' := 600) (L' := #[.val (.long x0), .second, .val (.int s0), .val (.int a1), .val (.int c1), .val (.long xv), .second, .val (.int (Int32.ofNat att)), .val (.int sv), .val (.ref b1), .val (.int (Int32.ofNat N)), .val (.int (Int32.ofNat (att + N))), .val (.int (1 : Int32))]) X43 at_598 rfl rfl ?_
  refine w_iload (pc' := 602) X43 at_600 rfl rfl ?_
  refine w_if_eq (pc1 := 627) (pc2 := 605) X43 at_602 (by decide) (fun (hc602 : (1 : Int32) = (0 : Int32)) => absurd hc602 (by decide)) (fun (hc602 : (1 : Int32) ≠ (0 : Int32)) => ?_)
  refine w_aload (pc' := 607) X43 at_605 rfl rfl rfl ?_
  refine w_bipush (pc' := 609) (z := (12 : Int32)) X43 at_607 rfl rfl ?_
  refine w_iload (pc' := 611) X43 at_609 rfl rfl ?_
  refine w_iload (pc' := 613) X43 at_611 rfl rfl ?_
  refine w_lload (pc' := 615) X43 at_613 rfl rfl ?_
  refine w_iload (pc' := 617) X43 at_615 rfl rfl ?_
  refine w_callS (pc' := 620) (wd := 0) (argsL := [(.ref b1), (.int (12 : Int32)), (.int (Int32.ofNat att)), (.int (Int32.ofNat N)), (.long xv), (.int sv)]) (rest := []) (Q2 := (rm3_Q Z b1 (12 : Int32) (Int32.ofNat att) (Int32.ofNat N) xv sv att N 12 h31 n0)) X43 at_617 (hw _ (List.mem_of_getElem? (i := 11) rfl)) (hw _ (List.mem_of_getElem? (i := 12) rfl)) (hw _ (List.mem_of_getElem? (i := 4) rfl)) (hw _ (List.mem_of_getElem? (i := 13) rfl)) (by decide) (rm3 l Z a0 hw [] b1 (12 : Int32) (Int32.ofNat att) (Int32.ofNat N) xv sv att N 12 h31 n0 X43.size Fc31 rfl rfl rfl ⟨by decide, hat, hN1, hN2⟩ hx0 hN3) pd_93 rfl rfl rfl (Nat.le_of_eq rfl) (by decide) (fun v44 T44 h44 X44 q44 => ?_)
  obtain ⟨rfl, rfl⟩ := q44
  refine w_if_eq (pc1 := 627) (pc2 := 623) X44 at_620 (by decide) (fun (hc620 : (1 : Int32) = (0 : Int32)) => absurd hc620 (by decide)) (fun (hc620 : (1 : Int32) ≠ (0 : Int32)) => ?_)
  refine w_iconst (pc' := 624) (z := (1 : Int32)) X44 at_623 rfl rfl ?_
  refine w_goto (pc' := 628) X44 at_624 (by decide) ?_
  refine w_istore (pc' := 630) (L' := #[.val (.long x0), .second, .val (.int s0), .val (.int a1), .val (.int c1), .val (.long xv), .second, .val (.int (Int32.ofNat att)), .val (.int sv), .val (.ref b1), .val (.int (Int32.ofNat N)), .val (.int (Int32.ofNat (att + N))), .val (.int (1 : Int32))]) X44 at_628 rfl rfl ?_
  refine w_iload (pc' := 632) X44 at_630 rfl rfl ?_
  refine w_if_eq (pc1 := 657) (pc2 := 635) X44 at_632 (by decide) (fun (hc632 : (1 : Int32) = (0 : Int32)) => absurd hc632 (by decide)) (fun (hc632 : (1 : Int32) ≠ (0 : Int32)) => ?_)
  refine w_aload (pc' := 637) X44 at_635 rfl rfl rfl ?_
  refine w_bipush (pc' := 639) (z := (13 : Int32)) X44 at_637 rfl rfl ?_
  refine w_iload (pc' := 641) X44 at_639 rfl rfl ?_
  refine w_iload (pc' := 643) X44 at_641 rfl rfl ?_
  refine w_lload (pc' := 645) X44 at_643 rfl rfl ?_
  refine w_iload (pc' := 647) X44 at_645 rfl rfl ?_
  refine w_callS (pc' := 650) (wd := 0) (argsL := [(.ref b1), (.int (13 : Int32)), (.int (Int32.ofNat att)), (.int (Int32.ofNat N)), (.long xv), (.int sv)]) (rest := []) (Q2 := (rm3_Q Z b1 (13 : Int32) (Int32.ofNat att) (Int32.ofNat N) xv sv att N 13 h31 n0)) X44 at_647 (hw _ (List.mem_of_getElem? (i := 11) rfl)) (hw _ (List.mem_of_getElem? (i := 12) rfl)) (hw _ (List.mem_of_getElem? (i := 4) rfl)) (hw _ (List.mem_of_getElem? (i := 13) rfl)) (by decide) (rm3 l Z a0 hw [] b1 (13 : Int32) (Int32.ofNat att) (Int32.ofNat N) xv sv att N 13 h31 n0 X44.size Fc31 rfl rfl rfl ⟨by decide, hat, hN1, hN2⟩ hx0 hN3) pd_93 rfl rfl rfl (Nat.le_of_eq rfl) (by decide) (fun v45 T45 h45 X45 q45 => ?_)
  obtain ⟨rfl, rfl⟩ := q45
  refine w_if_eq (pc1 := 657) (pc2 := 653) X45 at_650 (by decide) (fun (hc650 : (1 : Int32) = (0 : Int32)) => absurd hc650 (by decide)) (fun (hc650 : (1 : Int32) ≠ (0 : Int32)) => ?_)
  refine w_iconst (pc' := 654) (z := (1 : Int32)) X45 at_653 rfl rfl ?_
  refine w_goto (pc' := 658) X45 at_654 (by decide) ?_
  refine w_istore (pc' := 660) (L' := #[.val (.long x0), .second, .val (.int s0), .val (.int a1), .val (.int c1), .val (.long xv), .second, .val (.int (Int32.ofNat att)), .val (.int sv), .val (.ref b1), .val (.int (Int32.ofNat N)), .val (.int (Int32.ofNat (att + N))), .val (.int (1 : Int32))]) X45 at_658 rfl rfl ?_
  refine w_iload (pc' := 662) X45 at_660 rfl rfl ?_
  refine w_if_eq (pc1 := 687) (pc2 := 665) X45 at_662 (by decide) (fun (hc662 : (1 : Int32) = (0 : Int32)) => absurd hc662 (by decide)) (fun (hc662 : (1 : Int32) ≠ (0 : Int32)) => ?_)
  refine w_aload (pc' := 667) X45 at_665 rfl rfl rfl ?_
  refine w_bipush (pc' := 669) (z := (14 : Int32)) X45 at_667 rfl rfl ?_
  refine w_iload (pc' := 671) X45 at_669 rfl rfl ?_
  refine w_iload (pc' := 673) X45 at_671 rfl rfl ?_
  refine w_lload (pc' := 675) X45 at_673 rfl rfl ?_
  refine w_iload (pc' := 677) X45 at_675 rfl rfl ?_
  refine w_callS (pc' := 680) (wd := 0) (argsL := [(.ref b1), (.int (14 : Int32)), (.int (Int32.ofNat att)), (.int (Int32.ofNat N)), (.long xv), (.int sv)]) (rest := []) (Q2 := (rm3_Q Z b1 (14 : Int32) (Int32.ofNat att) (Int32.ofNat N) xv sv att N 14 h31 n0)) X45 at_677 (hw _ (List.mem_of_getElem? (i := 11) rfl)) (hw _ (List.mem_of_getElem? (i := 12) rfl)) (hw _ (List.mem_of_getElem? (i := 4) rfl)) (hw _ (List.mem_of_getElem? (i := 13) rfl)) (by decide) (rm3 l Z a0 hw [] b1 (14 : Int32) (Int32.ofNat att) (Int32.ofNat N) xv sv att N 14 h31 n0 X45.size Fc31 rfl rfl rfl ⟨by decide, hat, hN1, hN2⟩ hx0 hN3) pd_93 rfl rfl rfl (Nat.le_of_eq rfl) (by decide) (fun v46 T46 h46 X46 q46 => ?_)
  obtain ⟨rfl, rfl⟩ := q46
  refine w_if_eq (pc1 := 687) (pc2 := 683) X46 at_680 (by decide) (fun (hc680 : (1 : Int32) = (0 : Int32)) => absurd hc680 (by decide)) (fun (hc680 : (1 : Int32) ≠ (0 : Int32)) => ?_)
  refine w_iconst (pc' := 684) (z := (1 : Int32)) X46 at_683 rfl rfl ?_
  refine w_goto (pc' := 688) X46 at_684 (by decide) ?_
  refine w_istore (pc' := 690) (L' := #[.val (.long x0), .second, .val (.int s0), .val (.int a1), .val (.int c1), .val (.long xv), .second, .val (.int (Int32.ofNat att)), .val (.int sv), .val (.ref b1), .val (.int (Int32.ofNat N)), .val (.int (Int32.ofNat (att + N))), .val (.int (1 : Int32))]) X46 at_688 rfl rfl ?_
  refine w_iload (pc' := 692) X46 at_690 rfl rfl ?_
  refine w_if_eq (pc1 := 717) (pc2 := 695) X46 at_692 (by decide) (fun (hc692 : (1 : Int32) = (0 : Int32)) => absurd hc692 (by decide)) (fun (hc692 : (1 : Int32) ≠ (0 : Int32)) => ?_)
  refine w_aload (pc' := 697) X46 at_695 rfl rfl rfl ?_
  refine w_bipush (pc' := 699) (z := (15 : Int32)) X46 at_697 rfl rfl ?_
  refine w_iload (pc' := 701) X46 at_699 rfl rfl ?_
  refine w_iload (pc' := 703) X46 at_701 rfl rfl ?_
  refine w_lload (pc' := 705) X46 at_703 rfl rfl ?_
  refine w_iload (pc' := 707) X46 at_705 rfl rfl ?_
  refine w_callS (pc' := 710) (wd := 0) (argsL := [(.ref b1), (.int (15 : Int32)), (.int (Int32.ofNat att)), (.int (Int32.ofNat N)), (.long xv), (.int sv)]) (rest := []) (Q2 := (rm3_Q Z b1 (15 : Int32) (Int32.ofNat att) (Int32.ofNat N) xv sv att N 15 h31 n0)) X46 at_707 (hw _ (List.mem_of_getElem? (i := 11) rfl)) (hw _ (List.mem_of_getElem? (i := 12) rfl)) (hw _ (List.mem_of_getElem? (i := 4) rfl)) (hw _ (List.mem_of_getElem? (i := 13) rfl)) (by decide) (rm3 l Z a0 hw [] b1 (15 : Int32) (Int32.ofNat att) (Int32.ofNat N) xv sv att N 15 h31 n0 X46.size Fc31 rfl rfl rfl ⟨by decide, hat, hN1, hN2⟩ hx0 hN3) pd_93 rfl rfl rfl (Nat.le_of_eq rfl) (by decide) (fun v47 T47 h47 X47 q47 => ?_)
  obtain ⟨rfl, rfl⟩ := q47
  refine w_if_eq (pc1 := 717) (pc2 := 713) X47 at_710 (by decide) (fun (hc710 : (1 : Int32) = (0 : Int32)) => absurd hc710 (by decide)) (fun (hc710 : (1 : Int32) ≠ (0 : Int32)) => ?_)
  refine w_iconst (pc' := 714) (z := (1 : Int32)) X47 at_713 rfl rfl ?_
  refine w_goto (pc' := 718) X47 at_714 (by decide) ?_
  refine w_istore (pc' := 720) (L' := #[.val (.long x0), .second, .val (.int s0), .val (.int a1), .val (.int c1), .val (.long xv), .second, .val (.int (Int32.ofNat att)), .val (.int sv), .val (.ref b1), .val (.int (Int32.ofNat N)), .val (.int (Int32.ofNat (att + N))), .val (.int (1 : Int32))]) X47 at_718 rfl rfl ?_
  refine w_iload (pc' := 722) X47 at_720 rfl rfl ?_
  refine w_if_eq (pc1 := 747) (pc2 := 725) X47 at_722 (by decide) (fun (hc722 : (1 : Int32) = (0 : Int32)) => absurd hc722 (by decide)) (fun (hc722 : (1 : Int32) ≠ (0 : Int32)) => ?_)
  refine w_aload (pc' := 727) X47 at_725 rfl rfl rfl ?_
  refine w_bipush (pc' := 729) (z := (16 : Int32)) X47 at_727 rfl rfl ?_
  refine w_iload (pc' := 731) X47 at_729 rfl rfl ?_
  refine w_iload (pc' := 733) X47 at_731 rfl rfl ?_
  refine w_lload (pc' := 735) X47 at_733 rfl rfl ?_
  refine w_iload (pc' := 737) X47 at_735 rfl rfl ?_
  refine w_callS (pc' := 740) (wd := 0) (argsL := [(.ref b1), (.int (16 : Int32)), (.int (Int32.ofNat att)), (.int (Int32.ofNat N)), (.long xv), (.int sv)]) (rest := []) (Q2 := (rm3_Q Z b1 (16 : Int32) (Int32.ofNat att) (Int32.ofNat N) xv sv att N 16 h31 n0)) X47 at_737 (hw _ (List.mem_of_getElem? (i := 11) rfl)) (hw _ (List.mem_of_getElem? (i := 12) rfl)) (hw _ (List.mem_of_getElem? (i := 4) rfl)) (hw _ (List.mem_of_getElem? (i := 13) rfl)) (by decide) (rm3 l Z a0 hw [] b1 (16 : Int32) (Int32.ofNat att) (Int32.ofNat N) xv sv att N 16 h31 n0 X47.size Fc31 rfl rfl rfl ⟨by decide, hat, hN1, hN2⟩ hx0 hN3) pd_93 rfl rfl rfl (Nat.le_of_eq rfl) (by decide) (fun v48 T48 h48 X48 q48 => ?_)
  obtain ⟨rfl, rfl⟩ := q48
  refine w_if_eq (pc1 := 747) (pc2 := 743) X48 at_740 (by decide) (fun (hc740 : (1 : Int32) = (0 : Int32)) => absurd hc740 (by decide)) (fun (hc740 : (1 : Int32) ≠ (0 : Int32)) => ?_)
  refine w_iconst (pc' := 744) (z := (1 : Int32)) X48 at_743 rfl rfl ?_
  refine w_goto (pc' := 748) X48 at_744 (by decide) ?_
  refine w_istore (pc' := 750) (L' := #[.val (.long x0), .second, .val (.int s0), .val (.int a1), .val (.int c1), .val (.long xv), .second, .val (.int (Int32.ofNat att)), .val (.int sv), .val (.ref b1), .val (.int (Int32.ofNat N)), .val (.int (Int32.ofNat (att + N))), .val (.int (1 : Int32))]) X48 at_748 rfl rfl ?_
  refine w_iload (pc' := 752) X48 at_750 rfl rfl ?_
  refine w_if_eq (pc1 := 777) (pc2 := 755) X48 at_752 (by decide) (fun (hc752 : (1 : Int32) = (0 : Int32)) => absurd hc752 (by decide)) (fun (hc752 : (1 : Int32) ≠ (0 : Int32)) => ?_)
  refine w_aload (pc' := 757) X48 at_755 rfl rfl rfl ?_
  refine w_bipush (pc' := 759) (z := (17 : Int32)) X48 at_757 rfl rfl ?_
  refine w_iload (pc' := 761) X48 at_759 rfl rfl ?_
  refine w_iload (pc' := 763) X48 at_761 rfl rfl ?_
  refine w_lload (pc' := 765) X48 at_763 rfl rfl ?_
  refine w_iload (pc' := 767) X48 at_765 rfl rfl ?_
  refine w_callS (pc' := 770) (wd := 0) (argsL := [(.ref b1), (.int (17 : Int32)), (.int (Int32.ofNat att)), (.int (Int32.ofNat N)), (.long xv), (.int sv)]) (rest := []) (Q2 := (rm3_Q Z b1 (17 : Int32) (Int32.ofNat att) (Int32.ofNat N) xv sv att N 17 h31 n0)) X48 at_767 (hw _ (List.mem_of_getElem? (i := 11) rfl)) (hw _ (List.mem_of_getElem? (i := 12) rfl)) (hw _ (List.mem_of_getElem? (i := 4) rfl)) (hw _ (List.mem_of_getElem? (i := 13) rfl)) (by decide) (rm3 l Z a0 hw [] b1 (17 : Int32) (Int32.ofNat att) (Int32.ofNat N) xv sv att N 17 h31 n0 X48.size Fc31 rfl rfl rfl ⟨by decide, hat, hN1, hN2⟩ hx0 hN3) pd_93 rfl rfl rfl (Nat.le_of_eq rfl) (by decide) (fun v49 T49 h49 X49 q49 => ?_)
  obtain ⟨rfl, rfl⟩ := q49
  refine w_if_eq (pc1 := 777) (pc2 := 773) X49 at_770 (by decide) (fun (hc770 : (1 : Int32) = (0 : Int32)) => absurd hc770 (by decide)) (fun (hc770 : (1 : Int32) ≠ (0 : Int32)) => ?_)
  refine w_iconst (pc' := 774) (z := (1 : Int32)) X49 at_773 rfl rfl ?_
  refine w_goto (pc' := 778) X49 at_774 (by decide) ?_
  refine w_istore (pc' := 780) (L' := #[.val (.long x0), .second, .val (.int s0), .val (.int a1), .val (.int c1), .val (.long xv), .second, .val (.int (Int32.ofNat att)), .val (.int sv), .val (.ref b1), .val (.int (Int32.ofNat N)), .val (.int (Int32.ofNat (att + N))), .val (.int (1 : Int32))]) X49 at_778 rfl rfl ?_
  refine w_iload (pc' := 782) X49 at_780 rfl rfl ?_
  refine w_if_eq (pc1 := 807) (pc2 := 785) X49 at_782 (by decide) (fun (hc782 : (1 : Int32) = (0 : Int32)) => absurd hc782 (by decide)) (fun (hc782 : (1 : Int32) ≠ (0 : Int32)) => ?_)
  refine w_aload (pc' := 787) X49 at_785 rfl rfl rfl ?_
  refine w_bipush (pc' := 789) (z := (18 : Int32)) X49 at_787 rfl rfl ?_
  refine w_iload (pc' := 791) X49 at_789 rfl rfl ?_
  refine w_iload (pc' := 793) X49 at_791 rfl rfl ?_
  refine w_lload (pc' := 795) X49 at_793 rfl rfl ?_
  refine w_iload (pc' := 797) X49 at_795 rfl rfl ?_
  refine w_callS (pc' := 800) (wd := 0) (argsL := [(.ref b1), (.int (18 : Int32)), (.int (Int32.ofNat att)), (.int (Int32.ofNat N)), (.long xv), (.int sv)]) (rest := []) (Q2 := (rm3_Q Z b1 (18 : Int32) (Int32.ofNat att) (Int32.ofNat N) xv sv att N 18 h31 n0)) X49 at_797 (hw _ (List.mem_of_getElem? (i := 11) rfl)) (hw _ (List.mem_of_getElem? (i := 12) rfl)) (hw _ (List.mem_of_getElem? (i := 4) rfl)) (hw _ (List.mem_of_getElem? (i := 13) rfl)) (by decide) (rm3 l Z a0 hw [] b1 (18 : Int32) (Int32.ofNat att) (Int32.ofNat N) xv sv att N 18 h31 n0 X49.size Fc31 rfl rfl rfl ⟨by decide, hat, hN1, hN2⟩ hx0 hN3) pd_93 rfl rfl rfl (Nat.le_of_eq rfl) (by decide) (fun v50 T50 h50 X50 q50 => ?_)
  obtain ⟨rfl, rfl⟩ := q50
  refine w_if_eq (pc1 := 807) (pc2 := 803) X50 at_800 (by decide) (fun (hc800 : (1 : Int32) = (0 : Int32)) => absurd hc800 (by decide)) (fun (hc800 : (1 : Int32) ≠ (0 : Int32)) => ?_)
  refine w_iconst (pc' := 804) (z := (1 : Int32)) X50 at_803 rfl rfl ?_
  refine w_goto (pc' := 808) X50 at_804 (by decide) ?_
  refine w_istore (pc' := 810) (L' := #[.val (.long x0), .second, .val (.int s0), .val (.int a1), .val (.int c1), .val (.long xv), .second, .val (.int (Int32.ofNat att)), .val (.int sv), .val (.ref b1), .val (.int (Int32.ofNat N)), .val (.int (Int32.ofNat (att + N))), .val (.int (1 : Int32))]) X50 at_808 rfl rfl ?_
  refine w_iload (pc' := 812) X50 at_810 rfl rfl ?_
  refine w_if_eq (pc1 := 837) (pc2 := 815) X50 at_812 (by decide) (fun (hc812 : (1 : Int32) = (0 : Int32)) => absurd hc812 (by decide)) (fun (hc812 : (1 : Int32) ≠ (0 : Int32)) => ?_)
  refine w_aload (pc' := 817) X50 at_815 rfl rfl rfl ?_
  refine w_bipush (pc' := 819) (z := (19 : Int32)) X50 at_817 rfl rfl ?_
  refine w_iload (pc' := 821) X50 at_819 rfl rfl ?_
  refine w_iload (pc' := 823) X50 at_821 rfl rfl ?_
  refine w_lload (pc' := 825) X50 at_823 rfl rfl ?_
  refine w_iload (pc' := 827) X50 at_825 rfl rfl ?_
  refine w_callS (pc' := 830) (wd := 0) (argsL := [(.ref b1), (.int (19 : Int32)), (.int (Int32.ofNat att)), (.int (Int32.ofNat N)), (.long xv), (.int sv)]) (rest := []) (Q2 := (rm3_Q Z b1 (19 : Int32) (Int32.ofNat att) (Int32.ofNat N) xv sv att N 19 h31 n0)) X50 at_827 (hw _ (List.mem_of_getElem? (i := 11) rfl)) (hw _ (List.mem_of_getElem? (i := 12) rfl)) (hw _ (List.mem_of_getElem? (i := 4) rfl)) (hw _ (List.mem_of_getElem? (i := 13) rfl)) (by decide) (rm3 l Z a0 hw [] b1 (19 : Int32) (Int32.ofNat att) (Int32.ofNat N) xv sv att N 19 h31 n0 X50.size Fc31 rfl rfl rfl ⟨by decide, hat, hN1, hN2⟩ hx0 hN3) pd_93 rfl rfl rfl (Nat.le_of_eq rfl) (by decide) (fun v51 T51 h51 X51 q51 => ?_)
  obtain ⟨rfl, rfl⟩ := q51
  refine w_if_eq (pc1 := 837) (pc2 := 833) X51 at_830 (by decide) (fun (hc830 : (1 : Int32) = (0 : Int32)) => absurd hc830 (by decide)) (fun (hc830 : (1 : Int32) ≠ (0 : Int32)) => ?_)
  refine w_iconst (pc' := 834) (z := (1 : Int32)) X51 at_833 rfl rfl ?_
  refine w_goto (pc' := 838) X51 at_834 (by decide) ?_
  refine w_istore (pc' := 840) (L' := #[.val (.long x0), .second, .val (.int s0), .val (.int a1), .val (.int c1), .val (.long xv), .second, .val (.int (Int32.ofNat att)), .val (.int sv), .val (.ref b1), .val (.int (Int32.ofNat N)), .val (.int (Int32.ofNat (att + N))), .val (.int (1 : Int32))]) X51 at_838 rfl rfl ?_
  refine w_iload (pc' := 842) X51 at_840 rfl rfl ?_
  exact w_nreturn (t := .boolean) X51 at_842 rfl (by simp) (rfl)
set_option maxRecDepth 65536 in
set_option maxHeartbeats 40000000 in
theorem comes_1 {Post : Tables → Env → Array Value → State → Outcome → State → Prop} (hpost : ∀ tb e args s v u, (limb_1_1.after args s (.returned v) u = true ∧ limb_1_2.after args s (.returned v) u = true ∧ True) → FrameEnd s (.returned v) u (Jvm.fieldLocs frame_1_writes args s ++ Jvm.arrayLocs frame_1_arrays args s ++ Jvm.staticLocs frame_1_statics s) 16 128 → Post tb e args s (.returned v) u) :
    ArmFor flags0 classFile x code maxLocals ret World_1 tables_1 room_1 Calls_1 rest_1 Pre_1 Post := by
  intro l hfl _ _ p e ha hc hk s m args below hf hA hF happ hP
  obtain ⟨hcalls, hrest, hpre⟩ := hP
  obtain ⟨-, -, -, hnamed, -, -, -, hat⟩ := (Spec.applies_iff hf).mp happ
  obtain ⟨hg, hn⟩ := and_e (Cond.before_iff.mp (show (Jvm.Cond.and given_1 narrow_1).before args s = true from hpre))
  obtain ⟨ga0, gb0⟩ := and_e hg
  obtain ⟨ga1, gb1⟩ := and_e gb0
  obtain ⟨ga2, gb2⟩ := and_e gb1
  obtain ⟨ga3, gb3⟩ := and_e gb2
  obtain ⟨w0, w1, w2, w3, rfl⟩ : ∃ w0 w1 w2 w3 : Value, args = #[w0, w1, w2, w3] := by
    have hs : args.size = 4 := by simpa [Cond.value, given_1] using ga0
    obtain ⟨L⟩ := args
    match L, hs with
    | [w0, w1, w2, w3], _ => exact ⟨w0, w1, w2, w3, rfl⟩
  have hw := fun d (hd : d ∈ tables_1) => atoms_spec (ws := Jvm.Cond.code x code maxLocals ret :: tables_1) hat d (List.mem_cons_of_mem _ hd)
  obtain ⟨i0, ei0⟩ := isL_v ga1
  obtain rfl : w0 = (.long i0) := Option.some.inj ei0
  obtain ⟨i1, ei1⟩ := is_v ga2
  obtain rfl : w1 = (.int i1) := Option.some.inj ei1
  obtain ⟨i2, ei2⟩ := is_v ga3
  obtain rfl : w2 = (.int i2) := Option.some.inj ei2
  obtain ⟨i3, ei3⟩ := is_v gb3
  obtain rfl : w3 = (.int i3) := Option.some.inj ei3
  obtain ⟨n, o, h1, h2, h3, _, L, rfl, ⟨N, -, rfl⟩, hq⟩ := rm0 l s _ hw tables_1 i0 i1 i2 i3 s.heap s.heap.size (Nat.le_refl _) p e ha hc hk s m _ below hf ((Spec.applies_iff_loose hf).mp happ).1 ⟨rfl, State.Warmed39.refl s, rfl⟩ trivial
  refine ⟨n, _, h1, h2, h3, hpost _ _ _ _ _ _ ⟨Cond.after_iff.mpr rfl, Cond.after_iff.mpr (eq_i res_at (Term.int_eval (1)) rfl), trivial⟩ ⟨hq.1, hq.2.1, (hq.2.2.sift fun y hy => Or.inr (N y hy)).mono (by decide) (by decide)⟩⟩
theorem main_1_1 : Claimed_1_1 := comes_1 fun _ _ _ _ _ _ h hF => ⟨h.1, hF⟩
theorem main_1_2 : Claimed_1_2 := comes_1 fun _ _ _ _ _ _ h hF => ⟨h.2.1, hF⟩
end Jvm.Pilot.@@N@@
namespace Jvm.Pilot.@@N@@
open Jvm Jvm.ClassFile Sem Op Lib Jvm.Free Jvm.Stand Jvm.Pilot.@@N@@.Jvm.D
/-! MADE BY PROGRAM (witnessworld.py) out of the Statement's table words and the real class files: 9 classes; the members and pool entries that the words name. The judged class is class 1, her method 1. -/
namespace start1
open Jvm.ClassFile
def u (s : String) : CpInfo := .utf8 (stringToUtf16 s)
/-- a pool by its gaps: so many unusable entries, then the entry; so many at the end -/
def gap : Nat → List CpInfo → List CpInfo
  | 0, r => r
  | n + 1, r => .unusable :: gap n r
def poolList (es : List (Nat × CpInfo)) (last : Nat) : List CpInfo := es.foldr (fun e r => gap e.1 (e.2 :: r)) (gap last [])
def pool (es : List (Nat × CpInfo)) (last : Nat) : Array CpInfo := ⟨poolList es last⟩
def fileOf (pool : Array CpInfo) (this : Nat) (attrs : Array Attribute := #[]) (ms : Array MethodInfo := #[]) (fl : Nat := 33) (sup : Nat := 0) (ifs : Array Nat := #[]) (fds : Array FieldInfo := #[]) : ClassFile where
  minorVersion := 0
  majorVersion := 65
  constantPool := pool
  accessFlags := fl
  thisClass := this
  superClass := sup
  interfaces := ifs
  fields := fds
  methods := ms
  attributes := attrs
def plain (name : String) (sup : Option ClassId) : Class where
  name := name
  kind := .ordinary
  loader := none
  accessFlags := 33
  super := sup
  interfaces := #[]
  cf := none
  fields := #[]
  methods := #[]
  instanceTypes := #[]
  staticTypes := #[]
  resolved := #[]
  callSites := []
  init := .initialized
  statics := none
  mirror := none

def pool0 : Array CpInfo := pool [(5, u "<init>"), (0, u "()V"), (1, .class_ 10), (1, u "java/lang/Object")] 113

def k0m0 : Method := { name := "<init>", desc := "()V", sig := { parameters := [], returnType := none }, accessFlags := 1, code := none }
/-- java/lang/Object -/
def k0 : Class := { plain "java/lang/Object" none with
  accessFlags := 33
  interfaces := #[]
  cf := some (fileOf pool0 8 #[] #[{ accessFlags := 1, nameIndex := 5, descriptorIndex := 6, attributes := #[] }] 33 0 #[] #[])
  fields := #[]
  methods := #[k0m0]
  instanceTypes := #[]
  staticTypes := #[]
  resolved := Array.replicate 124 none
  statics := none }

def pool1 : Array CpInfo := pool [(2, .class_ 4), (1, u "java/lang/Object"), (0, u "<init>"), (0, u "()V"), (2, .long 9223372036854775807), (1, .methodref 12 13), (0, .class_ 14), (0, .nameAndType 15 16), (0, u "com/example/partitioner/partitioner/engine/ByteWriterPutVarintPinLaw"), (0, u "more"), (0, u "(JI)I"), (0, .methodref 18 19), (0, .class_ 20), (0, .nameAndType 21 22), (0, u "com/example/partitioner/partitioner/engine/ByteWriter"), (0, u "putVarint"), (0, u "([BIJ)I"), (0, .methodref 12 24), (0, .nameAndType 25 26), (0, u "same"), (0, u "([BIIIJB)Z"), (0, .long 127), (3, u "law"), (0, u "(JIII)Z")] 5

def k1m0 : Method := { name := "<init>", desc := "()V", sig := { parameters := [], returnType := none }, accessFlags := 1, code := none }
def k1c1 : Code := { maxStack := 7, maxLocals := 13, code := code, exceptionTable := #[], attributes := #[] }
def k1m1 : Method := { name := "law", desc := "(JIII)Z", sig := { parameters := [.long, .int, .int, .int], returnType := some .boolean }, accessFlags := 9, code := some k1c1 }
def k1c2 : Code := { maxStack := 4, maxLocals := 3, code := method_3_code, exceptionTable := #[], attributes := #[] }
def k1m2 : Method := { name := "more", desc := "(JI)I", sig := { parameters := [.long, .int], returnType := some .int }, accessFlags := 10, code := some k1c2 }
def k1c3 : Code := { maxStack := 4, maxLocals := 9, code := method_4_code, exceptionTable := #[], attributes := #[] }
def k1m3 : Method := { name := "same", desc := "([BIIIJB)Z", sig := { parameters := [(.array .byte), .int, .int, .int, .long, .byte], returnType := some .boolean }, accessFlags := 10, code := some k1c3 }
/-- com/example/partitioner/partitioner/engine/ByteWriterPutVarintPinLaw -/
def k1 : Class := { plain "com/example/partitioner/partitioner/engine/ByteWriterPutVarintPinLaw" (some 0) with
  accessFlags := 49
  interfaces := #[]
  cf := some (fileOf pool1 12 #[] #[{ accessFlags := 1, nameIndex := 5, descriptorIndex := 6, attributes := #[] }, { accessFlags := 9, nameIndex := 31, descriptorIndex := 32, attributes := #[] }, { accessFlags := 10, nameIndex := 15, descriptorIndex := 16, attributes := #[] }, { accessFlags := 10, nameIndex := 25, descriptorIndex := 26, attributes := #[] }] 49 2 #[] #[])
  fields := #[]
  methods := #[k1m0, k1m1, k1m2, k1m3]
  instanceTypes := #[]
  staticTypes := #[]
  resolved := Array.replicate 38 none
  statics := none }

def pool2 : Array CpInfo := pool [(2, .class_ 4), (1, u "java/lang/Object"), (3, .class_ 10), (1, u "com/example/partitioner/partitioner/engine/ByteWriter"), (0, u "bytes"), (0, u "[B"), (2, u "length"), (0, u "I"), (2, u "BIG_ENDIAN_LONG"), (0, u "Ljava/lang/invoke/VarHandle;"), (24, u "putVarint"), (0, u "([BIJ)I"), (6, .long 18446744073709551488), (1, .long 127), (1, .long 128), (35, u "MAX_VARINT_BYTES"), (2, u "SEVEN_BITS"), (1, u "MORE_BYTES")] 21

def k2c0 : Code := { maxStack := 6, maxLocals := 7, code := prog_21_method_11_code, exceptionTable := #[], attributes := #[] }
def k2m0 : Method := { name := "putVarint", desc := "([BIJ)I", sig := { parameters := [(.array .byte), .int, .long], returnType := some .int }, accessFlags := 9, code := some k2c0 }
/-- com/example/partitioner/partitioner/engine/ByteWriter -/
def k2 : Class := { plain "com/example/partitioner/partitioner/engine/ByteWriter" (some 0) with
  accessFlags := 49
  interfaces := #[]
  cf := some (fileOf pool2 8 #[] #[{ accessFlags := 9, nameIndex := 45, descriptorIndex := 46, attributes := #[] }] 49 2 #[] #[{ accessFlags := 26, nameIndex := 19, descriptorIndex := 20, attributes := #[] }, { accessFlags := 25, nameIndex := 93, descriptorIndex := 16, attributes := #[] }, { accessFlags := 26, nameIndex := 96, descriptorIndex := 16, attributes := #[] }, { accessFlags := 26, nameIndex := 98, descriptorIndex := 16, attributes := #[] }, { accessFlags := 2, nameIndex := 11, descriptorIndex := 12, attributes := #[] }, { accessFlags := 2, nameIndex := 15, descriptorIndex := 16, attributes := #[] }])
  fields := #[{ name := "BIG_ENDIAN_LONG", type := (.object "java/lang/invoke/VarHandle"), accessFlags := 26, slot := 0, constantValue := 0 }, { name := "MAX_VARINT_BYTES", type := .int, accessFlags := 25, slot := 1, constantValue := 0 }, { name := "SEVEN_BITS", type := .int, accessFlags := 26, slot := 2, constantValue := 0 }, { name := "MORE_BYTES", type := .int, accessFlags := 26, slot := 3, constantValue := 0 }, { name := "bytes", type := (.array .byte), accessFlags := 2, slot := 0, constantValue := 0 }, { name := "length", type := .int, accessFlags := 2, slot := 1, constantValue := 0 }]
  methods := #[k2m0]
  instanceTypes := #[(.array .byte), .int]
  staticTypes := #[(.object "java/lang/invoke/VarHandle"), .int, .int, .int]
  resolved := Array.replicate 120 none
  statics := none }

def pool3 : Array CpInfo := pool [(1, u "java/lang/Cloneable"), (0, .class_ 1), (0, u "java/lang/Object"), (0, .class_ 3)] 3

/-- java/lang/Cloneable -/
def k3 : Class := { plain "java/lang/Cloneable" (some 0) with
  accessFlags := 1537
  interfaces := #[]
  cf := some (fileOf pool3 2 #[] #[] 1537 4 #[] #[])
  fields := #[]
  methods := #[]
  instanceTypes := #[]
  staticTypes := #[]
  resolved := Array.replicate 8 none
  statics := none }

def pool4 : Array CpInfo := pool [(1, u "java/io/Serializable"), (0, .class_ 1), (0, u "java/lang/Object"), (0, .class_ 3)] 3

/-- java/io/Serializable -/
def k4 : Class := { plain "java/io/Serializable" (some 0) with
  accessFlags := 1537
  interfaces := #[]
  cf := some (fileOf pool4 2 #[] #[] 1537 4 #[] #[])
  fields := #[]
  methods := #[]
  instanceTypes := #[]
  staticTypes := #[]
  resolved := Array.replicate 8 none
  statics := none }

/-- the primitive byte -/
def k5 : Class := { plain "byte" none with kind := .primitive 'B', accessFlags := 0x411 }
/-- [B -/
def k6 : Class := { plain "[B" (some 0) with kind := .array 5 .byte, interfaces := #[3, 4], accessFlags := 1041 }

/-- the primitive int -/
def k7 : Class := { plain "int" none with kind := .primitive 'I', accessFlags := 0x411 }
/-- [I -/
def k8 : Class := { plain "[I" (some 0) with kind := .array 7 .int, interfaces := #[3, 4], accessFlags := 1041 }

def heap : Heap := #[]
def classes : Array Class := #[k0, k1, k2, k3, k4, k5, k6, k7, k8]
def interned : List (Array UInt16 × Addr) := []
def slotsUsed : Nat := 0
def theMethod : MethodId := ⟨1, 1⟩
def args0 : Array Value := #[.long 5, .int 3, .int 2, .int 7]
def aboutOver (below : List Frame) : State where
  vm := { classes := classes, interned := interned.toArray }
  heap := heap
  slotsUsed := slotsUsed
  threads := #[{ frames := .invoking theMethod args0 :: below }]
def below0 : List Frame := [.native { method := ⟨0, 0⟩, args := #[] }]
def about1 : State := aboutOver below0
def p0 : Program := .bare "" "" ""
def e0 : Env := launch0.env 0 0 0
theorem w_frames : about1.frames = Frame.invoking theMethod args0 :: below0 := rfl
set_option maxRecDepth 65536 in
theorem w_args : argsFit about1.vm theMethod args0 = true := by decide +kernel
set_option maxRecDepth 65536 in
theorem w_heap : heapFits about1 = true := by decide +kernel
set_option maxRecDepth 65536 in
theorem w_runnable : about1.curStatus? = some .runnable := by decide +kernel
set_option maxRecDepth 65536 in
theorem w_alone : about1.alone = true := by decide +kernel
set_option maxRecDepth 65536 in
theorem w_named : about1.methodNamed? x = some theMethod := by decide +kernel
set_option maxRecDepth 65536 in
theorem w_hears : about1.hears theMethod below0 = true := by decide +kernel
set_option maxRecDepth 65536 in
theorem w_ripe : about1.ripe theMethod args0 below0 = true := by decide +kernel
theorem w_running : about1.status = .running := rfl
set_option maxRecDepth 65536 in
theorem w_room : about1.hasRoom e0.platform room_1 = true :=
  launch0.hasRoom_least _ room_1 (by decide +kernel) (by decide +kernel) (by decide +kernel) (by decide +kernel) (by decide +kernel) (by decide +kernel)
theorem allAtoms_all (ts : List Jvm.Cond) (a : Array Jvm.Value) (st : Jvm.State) : (allAtoms ts).before a st = ts.all (fun c => c.before a st) := by
  induction ts with
  | nil => rfl
  | cons c t ih =>
    show (Jvm.Cond.and c (allAtoms t)).before a st = _
    rw [Jvm.Cond.before_and, ih, List.all_cons]
def words1 : List Jvm.Cond := Jvm.Cond.code x code maxLocals ret :: tables_1
/-- a 'code' word, met by the world's own term for the bytes: nothing is compared byte by byte -/
theorem code_word {y : MethodName} {bytes : ByteArray} {mx : Nat} {rt : Option FieldType} {a : Array Value} {s : State} {m : MethodId} {meth : Method} {c : Code} (h1 : s.methodNamed? y = some m) (h2 : s.vm.method? m = some meth) (h3 : meth.code = some c) (h4 : c.code = bytes)
    (h5 : (c.maxLocals == mx && c.exceptionTable.isEmpty && decide (c.maxStack ≤ mostOperands) && decide (meth.sig.returnType = rt) && !meth.locks && decide (parseMethodDescriptor y.desc = some meth.sig)) = true) : (Jvm.Cond.code y bytes mx rt).before a s = true := by
  simp only [Bool.and_eq_true, beq_iff_eq, Bool.not_eq_true', decide_eq_true_eq] at h5
  obtain ⟨⟨⟨⟨⟨g1, g2⟩, g3⟩, g4⟩, g5⟩, g6⟩ := h5
  simp [Cond.before, Cond.holds, Cond.value, h1, h2, h3, h4, g1, g2, g3, g4, g5, g6]
def isCode : Jvm.Cond → Bool
  | .code _ _ _ _ => true
  | _ => false
theorem all_split {L : List Jvm.Cond} {P : Jvm.Cond → Bool} (h1 : L.all (fun c => isCode c || P c) = true) (h2 : ∀ c ∈ L.filter isCode, P c = true) : L.all P = true := by
  refine List.all_eq_true.mpr fun c hc => ?_
  have h := List.all_eq_true.mp h1 c hc
  rcases Bool.eq_false_or_eq_true (isCode c) with hi | hi
  · exact h2 c (List.mem_filter.mpr ⟨hc, hi⟩)
  · simpa [hi] using h
set_option maxRecDepth 65536 in
theorem w_c0 : (Jvm.Cond.code x code maxLocals ret).before args0 about1 = true := code_word (m := ⟨1, 1⟩) (meth := k1m1) (c := k1c1) (by decide +kernel) rfl rfl rfl (by decide +kernel)
set_option maxRecDepth 65536 in
theorem w_c1 : (Jvm.Cond.code ({ cls := "com/example/partitioner/partitioner/engine/ByteWriterPutVarintPinLaw", name := "more", desc := "(JI)I" } : Jvm.MethodName) method_3_code (3 : Nat) (Option.some Jvm.ClassFile.FieldType.int)).before args0 about1 = true := code_word (m := ⟨1, 2⟩) (meth := k1m2) (c := k1c2) (by decide +kernel) rfl rfl rfl (by decide +kernel)
set_option maxRecDepth 65536 in
theorem w_c2 : (Jvm.Cond.code ({ cls := "com/example/partitioner/partitioner/engine/ByteWriter", name := "putVarint", desc := "([BIJ)I" } : Jvm.MethodName) prog_21_method_11_code (7 : Nat) (Option.some Jvm.ClassFile.FieldType.int)).before args0 about1 = true := code_word (m := ⟨2, 0⟩) (meth := k2m0) (c := k2c0) (by decide +kernel) rfl rfl rfl (by decide +kernel)
set_option maxRecDepth 65536 in
theorem w_c3 : (Jvm.Cond.code ({ cls := "com/example/partitioner/partitioner/engine/ByteWriterPutVarintPinLaw", name := "same", desc := "([BIIIJB)Z" } : Jvm.MethodName) method_4_code (9 : Nat) (Option.some Jvm.ClassFile.FieldType.boolean)).before args0 about1 = true := code_word (m := ⟨1, 3⟩) (meth := k1m3) (c := k1c3) (by decide +kernel) rfl rfl rfl (by decide +kernel)
def codes1 : List Jvm.Cond := [Jvm.Cond.code x code maxLocals ret, Jvm.Cond.code ({ cls := "com/example/partitioner/partitioner/engine/ByteWriterPutVarintPinLaw", name := "more", desc := "(JI)I" } : Jvm.MethodName) method_3_code (3 : Nat) (Option.some Jvm.ClassFile.FieldType.int), Jvm.Cond.code ({ cls := "com/example/partitioner/partitioner/engine/ByteWriter", name := "putVarint", desc := "([BIJ)I" } : Jvm.MethodName) prog_21_method_11_code (7 : Nat) (Option.some Jvm.ClassFile.FieldType.int), Jvm.Cond.code ({ cls := "com/example/partitioner/partitioner/engine/ByteWriterPutVarintPinLaw", name := "same", desc := "([BIIIJB)Z" } : Jvm.MethodName) method_4_code (9 : Nat) (Option.some Jvm.ClassFile.FieldType.boolean)]
set_option maxRecDepth 65536 in
theorem codes_eq : words1.filter isCode = codes1 := rfl
theorem w_codes : ∀ c ∈ words1.filter isCode, c.before args0 about1 = true := by
  rw [codes_eq]
  intro c hc
  simp only [codes1, List.mem_cons, List.not_mem_nil, or_false] at hc
  rcases hc with rfl | rfl | rfl | rfl
  · exact w_c0
  · exact w_c1
  · exact w_c2
  · exact w_c3
set_option maxRecDepth 65536 in
theorem w_t1 : words1.all (fun c => isCode c || c.before args0 about1) = true := by decide +kernel
theorem w_tables : (allAtoms (Jvm.Cond.code x code maxLocals ret :: tables_1)).before args0 about1 = true := by
  rw [allAtoms_all]
  show words1.all (fun c => c.before args0 about1) = true
  refine all_split ?_ w_codes
  rw [w_t1]
set_option maxRecDepth 65536 in
theorem w_case : (Jvm.Cond.and given_1 narrow_1).before args0 about1 = true := by decide +kernel
theorem w_applies : (headSpec (Jvm.Cond.code x code maxLocals ret :: tables_1) room_1).applies x e0.platform about1 = true :=
  (Spec.applies_iff w_frames).mpr ⟨w_running, w_runnable, w_alone, w_named, w_hears, w_ripe, w_room, w_tables⟩
theorem atStart : AtStart classFile x code maxLocals ret World_1 tables_1 room_1 Calls_1 rest_1 Pre_1 launch0 p0 e0 about1 theMethod args0 below0 :=
  ⟨lists_1, trivial, launch0.admits_env _ _ _, launch0.least_env, fairChoices_fair.cas, fairChoices_fair.clock, w_frames, w_args, w_heap, w_applies, trivial, trivial, w_case⟩
end start1
theorem witness_1 : WitnessClaimed_1 := ⟨start1.p0, start1.e0, start1.about1, start1.theMethod, start1.args0, start1.below0, start1.atStart⟩
end Jvm.Pilot.@@N@@
